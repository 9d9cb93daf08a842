import JvmDerived
import JvmDerived.Pilot.@@N@@Statement
import JvmDerived.Pilot.@@N@@Code
set_option linter.unusedVariables false
set_option linter.unusedSimpArgs false
@@BLOCK:NumsL.lean.txt@@
namespace Jvm.Pilot.@@N@@
open Jvm Jvm.ClassFile Sem Op Lib Jvm.Free Jvm.Stand Jvm.LawKit Jvm.RoadKit Bundle Jvm.Pilot.@@N@@.Jvm.D
open Jvm.Free.Fl (NoNaN64 Fin64 Nz64)
theorem own_lt_ne {a b n : Nat} (h : a < n) (g : b = n) : a ≠ b := by omega
theorem own_lt_ne2 {a b n : Nat} (h : a < n) (g : n ≤ b) : a ≠ b := by omega
theorem own_ge_of {k b n : Nat} (h : k ≤ n) (g : b = n) : k ≤ b := by omega
abbrev uu : Slot := .unset
abbrev ss : Slot := .second
abbrev vi (x : Int32) : Slot := .val (.int x)
abbrev vj (x : Int64) : Slot := .val (.long x)
abbrev vd (x : UInt64) : Slot := .val (.double x)
abbrev vr (x : Addr) : Slot := .val (.ref x)
/-- whatever is reached from here is reached from E -/
abbrev own_G (p : Program) (e : Env) (below : List Frame) (E T : State) (g : JFrame) : Prop := ∀ t, Steps p.tables e below (T.setTop g) t → Steps p.tables e below E t
theorem own_if_eqY {x : Int32} (h : x = 0) : ifCond.holds .eq x = true := by subst h; rfl
theorem own_if_eqN {x : Int32} (h : ¬ x = 0) : ifCond.holds .eq x = false := beq_false_of_ne h
theorem own_if_neY {x : Int32} (h : ¬ x = 0) : ifCond.holds .ne x = true := bne_iff_ne.mpr h
theorem own_if_neN {x : Int32} (h : x = 0) : ifCond.holds .ne x = false := by subst h; rfl
theorem own_if_ltY {x : Int32} (h : x < 0) : ifCond.holds .lt x = true := decide_eq_true h
theorem own_if_ltN {x : Int32} (h : ¬ x < 0) : ifCond.holds .lt x = false := decide_eq_false h
theorem own_if_geY {x : Int32} (h : ¬ x < 0) : ifCond.holds .ge x = true := decide_eq_true (Int32.not_lt.mp h)
theorem own_if_geN {x : Int32} (h : x < 0) : ifCond.holds .ge x = false := decide_eq_false (fun q => Int32.not_le.mpr h q)
theorem own_if_gtY {x : Int32} (h : 0 < x) : ifCond.holds .gt x = true := decide_eq_true h
theorem own_if_gtN {x : Int32} (h : ¬ 0 < x) : ifCond.holds .gt x = false := decide_eq_false h
theorem own_if_leY {x : Int32} (h : ¬ 0 < x) : ifCond.holds .le x = true := decide_eq_true (Int32.not_lt.mp h)
theorem own_if_leN {x : Int32} (h : 0 < x) : ifCond.holds .le x = false := decide_eq_false (fun q => Int32.not_le.mpr h q)
theorem own_ic_eqY {x y : Int32} (h : x = y) : if_icmp.holds .eq x y = true := beq_iff_eq.mpr h
theorem own_ic_eqN {x y : Int32} (h : ¬ x = y) : if_icmp.holds .eq x y = false := beq_false_of_ne h
theorem own_ic_neY {x y : Int32} (h : ¬ x = y) : if_icmp.holds .ne x y = true := bne_iff_ne.mpr h
theorem own_ic_neN {x y : Int32} (h : x = y) : if_icmp.holds .ne x y = false := by subst h; exact bne_self_eq_false x
theorem own_ic_ltY {x y : Int32} (h : x < y) : if_icmp.holds .lt x y = true := decide_eq_true h
theorem own_ic_ltN {x y : Int32} (h : ¬ x < y) : if_icmp.holds .lt x y = false := decide_eq_false h
theorem own_ic_geY {x y : Int32} (h : ¬ x < y) : if_icmp.holds .ge x y = true := decide_eq_true (Int32.not_lt.mp h)
theorem own_ic_geN {x y : Int32} (h : x < y) : if_icmp.holds .ge x y = false := decide_eq_false (fun q => Int32.not_le.mpr h q)
theorem own_ic_gtY {x y : Int32} (h : y < x) : if_icmp.holds .gt x y = true := decide_eq_true h
theorem own_ic_gtN {x y : Int32} (h : ¬ y < x) : if_icmp.holds .gt x y = false := decide_eq_false h
theorem own_ic_leY {x y : Int32} (h : ¬ y < x) : if_icmp.holds .le x y = true := decide_eq_true (Int32.not_lt.mp h)
theorem own_ic_leN {x y : Int32} (h : y < x) : if_icmp.holds .le x y = false := decide_eq_false (fun q => Int32.not_le.mpr h q)
/-- what a comparison of two whole or scaled values pushes -/
def own_c (i j : Int) : Int32 := if i < j then -1 else if i = j then 0 else 1
theorem own_cE (o : CmpOp) {x y : UInt64} {i j : Int} (h : FP.dcmp x y = some (compare i j)) : cmpValue (FP.dcmp x y) o = own_c i j := by
  rw [h, FP.Core.compare_ite, own_c]
  by_cases h1 : i < j
  · rw [if_pos h1, if_pos h1]; cases o <;> rfl
  · rw [if_neg h1, if_neg h1]
    by_cases h2 : i = j
    · rw [if_pos h2, if_pos h2]; cases o <;> rfl
    · rw [if_neg h2, if_neg h2]; cases o <;> rfl
theorem own_c_lt {i j : Int} (h : i < j) : own_c i j = -1 := by rw [own_c, if_pos h]
theorem own_c_eq {i j : Int} (h : i = j) : own_c i j = 0 := by rw [own_c, if_neg (by omega), if_pos h]
theorem own_c_gt {i j : Int} (h : j < i) : own_c i j = 1 := by rw [own_c, if_neg (by omega), if_neg (by omega)]
theorem own_c_cases (i j : Int) : (i < j ∧ own_c i j = -1) ∨ (i = j ∧ own_c i j = 0) ∨ (j < i ∧ own_c i j = 1) := by
  rcases Int.lt_trichotomy i j with h | h | h
  · exact Or.inl ⟨h, own_c_lt h⟩
  · exact Or.inr (Or.inl ⟨h, own_c_eq h⟩)
  · exact Or.inr (Or.inr ⟨h, own_c_gt h⟩)
theorem own_c_ltY {i j : Int} (h : i < j) : ifCond.holds .lt (own_c i j) = true := by rw [own_c_lt h]; rfl
theorem own_c_ltN {i j : Int} (h : ¬ i < j) : ifCond.holds .lt (own_c i j) = false := by rcases own_c_cases i j with q | q | q <;> first | exact absurd q.1 h | (rw [q.2]; rfl)
theorem own_c_geY {i j : Int} (h : ¬ i < j) : ifCond.holds .ge (own_c i j) = true := by rcases own_c_cases i j with q | q | q <;> first | exact absurd q.1 h | (rw [q.2]; rfl)
theorem own_c_geN {i j : Int} (h : i < j) : ifCond.holds .ge (own_c i j) = false := by rw [own_c_lt h]; rfl
theorem own_c_gtY {i j : Int} (h : j < i) : ifCond.holds .gt (own_c i j) = true := by rw [own_c_gt h]; rfl
theorem own_c_gtN {i j : Int} (h : ¬ j < i) : ifCond.holds .gt (own_c i j) = false := by rcases own_c_cases i j with q | q | q <;> first | exact absurd q.1 h | (rw [q.2]; rfl)
theorem own_c_leY {i j : Int} (h : ¬ j < i) : ifCond.holds .le (own_c i j) = true := by rcases own_c_cases i j with q | q | q <;> first | exact absurd q.1 h | (rw [q.2]; rfl)
theorem own_c_leN {i j : Int} (h : j < i) : ifCond.holds .le (own_c i j) = false := by rw [own_c_gt h]; rfl
theorem own_c_eqY {i j : Int} (h : i = j) : ifCond.holds .eq (own_c i j) = true := by rw [own_c_eq h]; rfl
theorem own_c_eqN {i j : Int} (h : ¬ i = j) : ifCond.holds .eq (own_c i j) = false := by rcases own_c_cases i j with q | q | q <;> first | exact absurd q.1 h | (rw [q.2]; rfl)
theorem own_c_neY {i j : Int} (h : ¬ i = j) : ifCond.holds .ne (own_c i j) = true := by rcases own_c_cases i j with q | q | q <;> first | exact absurd q.1 h | (rw [q.2]; rfl)
theorem own_c_neN {i j : Int} (h : i = j) : ifCond.holds .ne (own_c i j) = false := by rw [own_c_eq h]; rfl
theorem own_l_lt {i j : Int64} (h : i < j) : XT.cmpL i j = -1 := by
  rw [XT.cmpL, if_neg (fun q => Int64.lt_irrefl (Int64.lt_trans h q)), if_neg (fun q => Int64.lt_irrefl (q ▸ h))]
theorem own_l_eq {i j : Int64} (h : i = j) : XT.cmpL i j = 0 := by subst h; rw [XT.cmpL, if_neg Int64.lt_irrefl, if_pos rfl]
theorem own_l_gt {i j : Int64} (h : j < i) : XT.cmpL i j = 1 := by rw [XT.cmpL, if_pos h]
theorem own_l_cases (i j : Int64) : (i < j ∧ XT.cmpL i j = -1) ∨ (i = j ∧ XT.cmpL i j = 0) ∨ (j < i ∧ XT.cmpL i j = 1) := by
  by_cases h : i < j
  · exact Or.inl ⟨h, own_l_lt h⟩
  · by_cases h2 : i = j
    · exact Or.inr (Or.inl ⟨h2, own_l_eq h2⟩)
    · have h3 : j < i := by
        rw [Int64.lt_iff_toInt_lt] at h ⊢
        have h4 : i.toInt ≠ j.toInt := fun q => h2 (Int64.toInt_inj.mp q)
        omega
      exact Or.inr (Or.inr ⟨h3, own_l_gt h3⟩)
theorem own_l_ltY {i j : Int64} (h : i < j) : ifCond.holds .lt (XT.cmpL i j) = true := by rw [own_l_lt h]; rfl
theorem own_l_ltN {i j : Int64} (h : ¬ i < j) : ifCond.holds .lt (XT.cmpL i j) = false := by rcases own_l_cases i j with q | q | q <;> first | exact absurd q.1 h | (rw [q.2]; rfl)
theorem own_l_geY {i j : Int64} (h : ¬ i < j) : ifCond.holds .ge (XT.cmpL i j) = true := by rcases own_l_cases i j with q | q | q <;> first | exact absurd q.1 h | (rw [q.2]; rfl)
theorem own_l_geN {i j : Int64} (h : i < j) : ifCond.holds .ge (XT.cmpL i j) = false := by rw [own_l_lt h]; rfl
theorem own_l_gtY {i j : Int64} (h : j < i) : ifCond.holds .gt (XT.cmpL i j) = true := by rw [own_l_gt h]; rfl
theorem own_l_gtN {i j : Int64} (h : ¬ j < i) : ifCond.holds .gt (XT.cmpL i j) = false := by rcases own_l_cases i j with q | q | q <;> first | exact absurd q.1 h | (rw [q.2]; rfl)
theorem own_l_leY {i j : Int64} (h : ¬ j < i) : ifCond.holds .le (XT.cmpL i j) = true := by rcases own_l_cases i j with q | q | q <;> first | exact absurd q.1 h | (rw [q.2]; rfl)
theorem own_l_leN {i j : Int64} (h : j < i) : ifCond.holds .le (XT.cmpL i j) = false := by rw [own_l_gt h]; rfl
theorem own_l_eqY {i j : Int64} (h : i = j) : ifCond.holds .eq (XT.cmpL i j) = true := by rw [own_l_eq h]; rfl
theorem own_l_eqN {i j : Int64} (h : ¬ i = j) : ifCond.holds .eq (XT.cmpL i j) = false := by rcases own_l_cases i j with q | q | q <;> first | exact absurd q.1 h | (rw [q.2]; rfl)
theorem own_l_neY {i j : Int64} (h : ¬ i = j) : ifCond.holds .ne (XT.cmpL i j) = true := by rcases own_l_cases i j with q | q | q <;> first | exact absurd q.1 h | (rw [q.2]; rfl)
theorem own_l_neN {i j : Int64} (h : i = j) : ifCond.holds .ne (XT.cmpL i j) = false := by rw [own_l_eq h]; rfl
theorem own_ac_eq_Y {x y : Value} (h : x = y) : XT.acmp .eq x y = true := decide_eq_true h
theorem own_ac_eq_N {x y : Value} (h : ¬ x = y) : XT.acmp .eq x y = false := decide_eq_false h
theorem own_ac_ne_Y {x y : Value} (h : ¬ x = y) : XT.acmp .ne x y = true := decide_eq_true h
theorem own_ac_ne_N {x y : Value} (h : x = y) : XT.acmp .ne x y = false := decide_eq_false (fun q => q h)
theorem own_ar_eq_Y {x y : Addr} (h : x = y) : XT.acmp .eq (.ref x) (.ref y) = true := own_ac_eq_Y (congrArg Value.ref h)
theorem own_ar_eq_N {x y : Addr} (h : ¬ x = y) : XT.acmp .eq (.ref x) (.ref y) = false := own_ac_eq_N (fun q => h (Value.ref.inj q))
theorem own_ar_ne_Y {x y : Addr} (h : ¬ x = y) : XT.acmp .ne (.ref x) (.ref y) = true := own_ac_ne_Y (fun q => h (Value.ref.inj q))
theorem own_ar_ne_N {x y : Addr} (h : x = y) : XT.acmp .ne (.ref x) (.ref y) = false := own_ac_ne_N (congrArg Value.ref h)
/-- a static's object's field that the case names by a number -/
theorem own_ord {args : Array Value} {s : State} {t : Term} {C n d : String} {k : Int32} {x : Addr} (ev : t.eval args s none [] s = some (.ref x))
    (h : (Jvm.Cond.eq (Term.field t C n d) (Term.int k)).value args s none s [] = some true) : s.fieldOf? x C n d = some (.int k) := by
  obtain ⟨v, u, e1, e2, k1, k2⟩ := cmp_v (Or.inl h)
  have e3 : u = .int k := by have := (Term.int_eval (args := args) (first := s) (o := none) (idx := []) (s := s) k).symm.trans e2; exact (Option.some.inj this).symm
  subst e3
  obtain ⟨z, rfl⟩ := k2
  have q := gotT (Cond.eq_ints e1 e2) h
  rw [← fld_at ev, e1, q]
/-! doubles: exact values in units of the least double -/
def own_z (x : UInt64) : Int := FP.Core.zval FP.Core.b64 (FP.Core.val64 x)
theorem own_nn {i : Int} {x : UInt64} (h : FP.Core.DInt i x) : NoNaN64 x := Fl.val64_no.mpr (FP.Core.DInt_ne_nan h)
theorem own_cmpz {x y : UInt64} (hx : NoNaN64 x) (hy : NoNaN64 y) : FP.dcmp x y = some (compare (own_z x) (own_z y)) := FP.Core.dcmp_zval (Fl.val64_no.mp hx) (Fl.val64_no.mp hy)
theorem own_d0 : FP.Core.DInt 0 FP.dconst0 := by
  have h := FP.Core.l2d_int (a := 0) (by decide)
  rw [FP.Core.l2d_zero] at h; exact h
theorem own_d1 : FP.Core.DInt 1 FP.dconst1 := FP.Core.dint_one
theorem own_zi {i : Int} {x : UInt64} (h : FP.Core.DInt i x) : own_z x = i * (FP.Core.one64 : Int) := FP.Core.DInt_zval h
theorem own_fini {i : Int} {x : UInt64} (h : FP.Core.DInt i x) : Fin64 x := by
  have h' : FP.Core.Whole i (FP.Core.val64 x) := h
  cases hv : FP.Core.val64 x with
  | nan => rw [hv] at h'; exact h'.elim
  | inf s => rw [hv] at h'; exact h'.elim
  | fin s c q => exact Fl.fin64_core.mpr ⟨s, c, q, hv⟩
theorem own_one : (0 : Int) < (FP.Core.one64 : Int) := by have := FP.Core.one64_pos; omega
theorem own_nz {x : UInt64} (h : own_z x ≠ 0) : Nz64 x := Fl.nz64_core.mpr fun ⟨s, q, e⟩ => h (by
  show FP.Core.zval FP.Core.b64 (FP.Core.val64 x) = 0
  rw [e]; show FP.Core.signed s (0 * _) = 0; rw [Nat.zero_mul]; cases s <;> rfl)
theorem own_nzi {i : Int} {x : UInt64} (h : FP.Core.DInt i x) (hi : i ≠ 0) : Nz64 x := own_nz (by
  rw [own_zi h]; intro q; rcases Int.mul_eq_zero.mp q with r | r
  · exact hi r
  · have := own_one; omega)
theorem own_zn (x : UInt64) : (own_z x).natAbs = FP.Core.zmag FP.Core.b64 (FP.Core.val64 x) := FP.Core.natAbs_signed _ _
/-- the quotient, by the two values alone -/
theorem own_quot {x y : UInt64} (hx : Fin64 x) (hy : Fin64 y) (hz : own_z y ≠ 0) :
    FP.Core.val64 (FP.ddiv x y) = FP.Core.roundRatio FP.Core.b64 (FP.Core.sgn (FP.Core.val64 x) != FP.Core.sgn (FP.Core.val64 y)) (own_z x).natAbs (own_z y).natAbs 0 := by
  obtain ⟨s, c, q, ex⟩ := Fl.fin64_core.mp hx
  obtain ⟨t, d, r, ey⟩ := Fl.fin64_core.mp hy
  have fx : FP.Core.fits FP.Core.b64 (.fin s c q) := ex ▸ FP.Core.val64_fits x
  have fy : FP.Core.fits FP.Core.b64 (.fin t d r) := ey ▸ FP.Core.val64_fits y
  have hd : d ≠ 0 := fun h => hz (by
    show FP.Core.zval FP.Core.b64 (FP.Core.val64 y) = 0
    rw [ey, h]; show FP.Core.signed t (0 * _) = 0; rw [Nat.zero_mul]; cases t <;> rfl)
  rw [own_zn, own_zn, show FP.ddiv x y = FP.Core.ddiv x y from rfl, FP.Core.val64_ddiv, ex, ey]
  show (if d = 0 then _ else FP.Core.roundRatio FP.Core.b64 (s != t) c d (q - r)) = FP.Core.roundRatio FP.Core.b64 (s != t) (c * 2 ^ (q - FP.Core.b64.qmin).toNat) (d * 2 ^ (r - FP.Core.b64.qmin).toNat) 0
  rw [if_neg hd]
  refine FP.Core.roundRatio_congr (Nat.pos_of_ne_zero hd) (Nat.mul_pos (Nat.pos_of_ne_zero hd) (Nat.two_pow_pos _)) ?_
  have h1 := fx.2.1
  have h2 := fy.2.1
  have e1 : (r - FP.Core.b64.qmin).toNat + (q - r - 0).toNat = (q - FP.Core.b64.qmin).toNat + (0 - (q - r)).toNat := by omega
  calc c * (d * 2 ^ (r - FP.Core.b64.qmin).toNat) * 2 ^ (q - r - 0).toNat = c * d * (2 ^ (r - FP.Core.b64.qmin).toNat * 2 ^ (q - r - 0).toNat) := by
        rw [Nat.mul_assoc, Nat.mul_assoc, Nat.mul_assoc]
    _ = c * d * (2 ^ (q - FP.Core.b64.qmin).toNat * 2 ^ (0 - (q - r)).toNat) := by rw [← Nat.pow_add, ← Nat.pow_add, e1]
    _ = c * 2 ^ (q - FP.Core.b64.qmin).toNat * d * 2 ^ (0 - (q - r)).toNat := by
        rw [Nat.mul_right_comm c _ d, Nat.mul_assoc (c * d)]
theorem own_noNaN_of {x : UInt64} {s : Bool} {A B : Nat} {e : Int} (h : FP.Core.val64 x = FP.Core.roundRatio FP.Core.b64 s A B e) : NoNaN64 x :=
  Fl.val64_no.mpr (h ▸ FP.Core.roundRatio_ne_nan _ _ _ _ _)
theorem own_div_nn {x y : UInt64} (hx : Fin64 x) (hy : Fin64 y) (hz : own_z y ≠ 0) : NoNaN64 (FP.ddiv x y) := Fl.ddiv_out hx.noNaN hy (own_nz hz)
/-- what is rounded below (above) a double stays there -/
theorem own_rr_le {s : Bool} {A B : Nat} {V : UInt64} (hB : 0 < B) (hV : NoNaN64 V) (h : A * FP.Core.one64 ≤ (own_z V).natAbs * B) :
    FP.Core.zmag FP.Core.b64 (FP.Core.roundRatio FP.Core.b64 s A B 0) ≤ (own_z V).natAbs := by
  rw [own_zn] at h ⊢
  refine FP.Core.zmag_roundRatio_le FP.Core.good_b64 hB (FP.Core.val64_fits V) (Fl.val64_no.mp hV) (e0 := FP.Core.b64.qmin) (Int.le_refl _) (by decide +kernel) ?_
  rw [Int.sub_self]
  show A * 2 ^ (0 - FP.Core.b64.qmin).toNat ≤ _ * 1 * B
  rw [Nat.mul_one, Int.zero_sub, FP.Core.pow_qmin64]; exact h
theorem own_rr_ge {s : Bool} {A B : Nat} {V : UInt64} (hB : 0 < B) (h : (own_z V).natAbs * B ≤ A * FP.Core.one64) :
    (own_z V).natAbs ≤ FP.Core.zmag FP.Core.b64 (FP.Core.roundRatio FP.Core.b64 s A B 0) := by
  rw [own_zn] at h ⊢
  refine FP.Core.zmag_roundRatio_ge FP.Core.good_b64 hB (FP.Core.val64_fits V) (e0 := FP.Core.b64.qmin) (Int.le_refl _) (by decide +kernel) ?_
  rw [Int.sub_self]
  show _ * 1 * B ≤ A * 2 ^ (0 - FP.Core.b64.qmin).toNat
  rw [Nat.mul_one, Int.zero_sub, FP.Core.pow_qmin64]; exact h
theorem own_z_signed {x : UInt64} {s : Bool} {A B : Nat} (h : FP.Core.val64 x = FP.Core.roundRatio FP.Core.b64 s A B 0) :
    own_z x = FP.Core.signed s (FP.Core.zmag FP.Core.b64 (FP.Core.roundRatio FP.Core.b64 s A B 0)) := by
  show FP.Core.signed _ _ = _
  rw [h, FP.Core.sgn_roundRatio]
/-- a quotient of two that are not below nought -/
theorem own_div_ge0 {x y : UInt64} (hx : Fin64 x) (hy : Fin64 y) (hz : own_z y ≠ 0) (h0 : 0 ≤ own_z x) (h1 : 0 ≤ own_z y) : 0 ≤ own_z (FP.ddiv x y) := by
  have hq := own_quot hx hy hz
  rw [own_z_signed hq]
  cases hs : (FP.Core.sgn (FP.Core.val64 x) != FP.Core.sgn (FP.Core.val64 y)) with
  | false => exact Int.natCast_nonneg _
  | true =>
    have hy2 : FP.Core.sgn (FP.Core.val64 y) = false := by
      cases hs2 : FP.Core.sgn (FP.Core.val64 y) with
      | false => rfl
      | true =>
        exfalso; have : own_z y = -(FP.Core.zmag FP.Core.b64 (FP.Core.val64 y) : Int) := by show FP.Core.signed _ _ = _; rw [hs2]; rfl
        omega
    have hx2 : FP.Core.sgn (FP.Core.val64 x) = true := by rw [hy2] at hs; simpa using hs
    have hx3 : own_z x = -(FP.Core.zmag FP.Core.b64 (FP.Core.val64 x) : Int) := by show FP.Core.signed _ _ = _; rw [hx2]; rfl
    have hx4 : (own_z x).natAbs = 0 := by omega
    rw [hx4, FP.Core.roundRatio, if_pos rfl]
    show 0 ≤ FP.Core.signed true (0 * _); rw [Nat.zero_mul]; decide
theorem own_div_le {x y V : UInt64} (hx : Fin64 x) (hy : Fin64 y) (hz : own_z y ≠ 0) (hV : NoNaN64 V) (h0 : 0 ≤ own_z x) (h1 : 0 ≤ own_z y) (h2 : 0 ≤ own_z V)
    (h : own_z x * (FP.Core.one64 : Int) ≤ own_z V * own_z y) : own_z (FP.ddiv x y) ≤ own_z V := by
  have hq := own_quot hx hy hz
  have hge := own_div_ge0 hx hy hz h0 h1
  have hB : 0 < (own_z y).natAbs := by omega
  have h3 : (own_z x).natAbs * FP.Core.one64 ≤ (own_z V).natAbs * (own_z y).natAbs := by
    have e1 : ((own_z x).natAbs : Int) = own_z x := by omega
    have e2 : ((own_z y).natAbs : Int) = own_z y := by omega
    have e3 : ((own_z V).natAbs : Int) = own_z V := by omega
    have : (((own_z x).natAbs * FP.Core.one64 : Nat) : Int) ≤ (((own_z V).natAbs * (own_z y).natAbs : Nat) : Int) := by
      rw [Int.natCast_mul, Int.natCast_mul, e1, e2, e3]; exact h
    exact Int.ofNat_le.mp this
  have := own_rr_le (s := FP.Core.sgn (FP.Core.val64 x) != FP.Core.sgn (FP.Core.val64 y)) hB hV h3
  have h4 : (own_z (FP.ddiv x y)).natAbs ≤ (own_z V).natAbs := by rw [own_zn, hq]; exact this
  omega
/-- two doubles of the same whole value compare as equal -/
theorem own_eq0 {x y : UInt64} {i : Int} (o : CmpOp) (hx : FP.Core.DInt i x) (hy : FP.Core.DInt i y) : cmpValue (FP.dcmp x y) o = 0 := by
  rw [own_cE o (FP.Core.dcmp_int hx hy), own_c_eq rfl]
theorem own_mb {a b A B : Int} (h1 : -A ≤ a) (h2 : a ≤ A) (h3 : -B ≤ b) (h4 : b ≤ B) (h : A * B ≤ 9007199254740992) : (a * b).natAbs ≤ 2 ^ 53 := by
  rw [Int.natAbs_mul]
  have e1 : a.natAbs ≤ A.toNat := by omega
  have e2 : b.natAbs ≤ B.toNat := by omega
  have e3 : a.natAbs * b.natAbs ≤ A.toNat * B.toNat := Nat.mul_le_mul e1 e2
  have e4 : ((A.toNat * B.toNat : Nat) : Int) = A * B := by rw [Int.natCast_mul, Int.toNat_of_nonneg (by omega), Int.toNat_of_nonneg (by omega)]
  have e5 : (2 : Nat) ^ 53 = 9007199254740992 := by decide
  omega
theorem own_dl (a : Int64) {i : Int} (h : a.toInt = i) (hb : i.natAbs ≤ 2 ^ 53) : FP.Core.DInt i (FP.l2d a) := by subst h; exact FP.Core.l2d_int hb
theorem own_lm {a b : Int64} (h : (a.toInt * b.toInt).natAbs ≤ 2 ^ 53) : (a * b).toInt = a.toInt * b.toInt := by
  have e5 : (2 : Nat) ^ 53 = 9007199254740992 := by decide
  exact Jvm.Kit.i64_mul (by omega) (by omega)
theorem own_sgn_mul {s t : Bool} {b : Nat} {k : Int} (hb : 0 < b) (h : FP.Core.signed s (k.natAbs * b) = k * FP.Core.signed t b) : FP.Core.signed (s != t) k.natAbs = k := by
  have hb' : (0 : Int) < (b : Int) := by omega
  have e : ((k.natAbs * b : Nat) : Int) = (k.natAbs : Int) * (b : Int) := Int.natCast_mul _ _
  have key : ∀ z : Int, (k.natAbs : Int) * (b : Int) = z * (b : Int) → (k.natAbs : Int) = z := fun z q => Int.eq_of_mul_eq_mul_right (by omega) q
  cases s <;> cases t
  · show (k.natAbs : Int) = k
    apply key; rw [← e]; exact h
  · show -(k.natAbs : Int) = k
    have h' : ((k.natAbs * b : Nat) : Int) = k * -(b : Int) := h
    have := key (-k) (by rw [← e, h', Int.mul_neg, Int.neg_mul]); omega
  · show -(k.natAbs : Int) = k
    have h' : -((k.natAbs * b : Nat) : Int) = k * (b : Int) := h
    have := key (-k) (by rw [← e, Int.neg_mul, ← h', Int.neg_neg]); omega
  · show (k.natAbs : Int) = k
    have h' : -((k.natAbs * b : Nat) : Int) = k * -(b : Int) := h
    apply key; rw [← e]
    have : -((k.natAbs * b : Nat) : Int) = -(k * (b : Int)) := by rw [h', Int.mul_neg]
    omega
/-- a quotient of whole values that comes out even -/
theorem own_ddiv_int {k j : Int} {x y : UInt64} (hx : FP.Core.DInt (k * j) x) (hy : FP.Core.DInt j y) (hj : j ≠ 0) (hk : k.natAbs ≤ 2 ^ 53) : FP.Core.DInt k (FP.ddiv x y) := by
  have zx := own_zi hx
  have zy := own_zi hy
  have hz : own_z y ≠ 0 := by rw [zy]; exact Int.mul_ne_zero hj (by have := own_one; omega)
  have hq := own_quot (own_fini hx) (own_fini hy) hz
  have ha : (own_z x).natAbs = k.natAbs * (own_z y).natAbs := by rw [zx, zy, Int.mul_assoc, Int.natAbs_mul]
  have hb : 0 < (own_z y).natAbs := by omega
  show FP.Core.Whole k (FP.Core.val64 (FP.ddiv x y))
  rw [hq, ha, FP.Core.roundRatio_congr (A' := k.natAbs) (B' := 1) (e' := 0) hb (by decide) (by rw [Nat.mul_one])]
  refine FP.Core.whole_round FP.Core.good_b64 FP.Core.wide_b64 hk (d := .fin (FP.Core.sgn (FP.Core.val64 x) != FP.Core.sgn (FP.Core.val64 y)) k.natAbs 0) ?_
  show FP.Core.signed _ (k.natAbs * 1) = k * ((1 : Nat) : Int)
  rw [Nat.mul_one, show ((1 : Nat) : Int) = 1 from rfl, Int.mul_one]
  refine own_sgn_mul hb ?_
  have e1 : FP.Core.signed (FP.Core.sgn (FP.Core.val64 x)) (own_z x).natAbs = own_z x := by rw [own_zn]; rfl
  have e2 : FP.Core.signed (FP.Core.sgn (FP.Core.val64 y)) (own_z y).natAbs = own_z y := by rw [own_zn]; rfl
  rw [← ha, e1, e2, zx, zy, Int.mul_assoc]
theorem own_zmag_s (s : Bool) (A B : Nat) (e : Int) : FP.Core.zmag FP.Core.b64 (FP.Core.roundRatio FP.Core.b64 s A B e) = FP.Core.zmag FP.Core.b64 (FP.Core.roundRatio FP.Core.b64 false A B e) := by
  cases s with
  | false => rfl
  | true =>
    rw [show FP.Core.roundRatio FP.Core.b64 true A B e = FP.Core.negate (FP.Core.roundRatio FP.Core.b64 false A B e) from (FP.Core.negate_roundRatio FP.Core.b64 false A B e).symm]
    cases FP.Core.roundRatio FP.Core.b64 false A B e <;> rfl
theorem own_div_n {x y : UInt64} (hx : Fin64 x) (hy : Fin64 y) (hz : own_z y ≠ 0) : (own_z (FP.ddiv x y)).natAbs = FP.Core.zmag FP.Core.b64 (FP.Core.roundRatio FP.Core.b64 false (own_z x).natAbs (own_z y).natAbs 0) := by
  rw [own_zn, own_quot hx hy hz, own_zmag_s]
/-- two quotients of the same ratio, none below nought -/
theorem own_div_congr {x y x' y' : UInt64} (hx : Fin64 x) (hy : Fin64 y) (hz : own_z y ≠ 0) (hx' : Fin64 x') (hy' : Fin64 y') (hz' : own_z y' ≠ 0)
    (g1 : 0 ≤ own_z x) (g2 : 0 ≤ own_z y) (g3 : 0 ≤ own_z x') (g4 : 0 ≤ own_z y') (h : own_z x * own_z y' = own_z x' * own_z y) : own_z (FP.ddiv x y) = own_z (FP.ddiv x' y') := by
  have e1 := own_div_n hx hy hz
  have e2 := own_div_n hx' hy' hz'
  have k1 := own_div_ge0 hx hy hz g1 g2
  have k2 := own_div_ge0 hx' hy' hz' g3 g4
  have h' : (own_z x).natAbs * (own_z y').natAbs = (own_z x').natAbs * (own_z y).natAbs := by rw [← Int.natAbs_mul, ← Int.natAbs_mul, h]
  rw [FP.Core.roundRatio_congr (A' := (own_z x').natAbs) (B' := (own_z y').natAbs) (e' := 0) (by omega) (by omega) (by rw [h'])] at e1
  omega
/-- m * 2^k units is a double -/
theorem own_rep (m k : Nat) (hm : m < 2 ^ 53) (hk : k ≤ 2045) : ∃ V : UInt64, Fin64 V ∧ own_z V = ((m * 2 ^ k : Nat) : Int) := by
  have hq : FP.Core.b64.qmin = -1074 := FP.Core.qmin_b64
  have hq2 : FP.Core.b64.qmax = 971 := by decide
  obtain ⟨c, q, e1, e2⟩ := FP.Core.round_exact FP.Core.good_b64 false (c := m) (q := (k : Int) - 1074) hm (by rw [hq]; omega) (by rw [hq2]; omega)
  have hv : FP.Core.val64 (FP.Core.of64 (FP.Core.round FP.Core.b64 (.fin false m ((k : Int) - 1074)))) = .fin false c q := by
    rw [FP.Core.val64_of64 (FP.Core.round_fits FP.Core.good_b64 _), e1]
  refine ⟨_, Fl.fin64_core.mpr ⟨_, _, _, hv⟩, ?_⟩
  show FP.Core.zval FP.Core.b64 _ = _
  rw [hv]
  show ((FP.Core.inUnits c q FP.Core.b64.qmin : Nat) : Int) = _
  rw [e2, FP.Core.inUnits, hq, show ((k : Int) - 1074 - -1074).toNat = k by omega]
/-- a quotient that comes out even in some binary place -/
theorem own_div_exact {x y : UInt64} (hx : Fin64 x) (hy : Fin64 y) (hz : own_z y ≠ 0) (g1 : 0 ≤ own_z x) (g2 : 0 ≤ own_z y) (m k : Nat) (hm : m < 2 ^ 53) (hk : k ≤ 2045)
    (h : own_z x * (FP.Core.one64 : Int) = ((m * 2 ^ k : Nat) : Int) * own_z y) : own_z (FP.ddiv x y) = ((m * 2 ^ k : Nat) : Int) := by
  obtain ⟨V, fV, zV⟩ := own_rep m k hm hk
  have k1 := own_div_ge0 hx hy hz g1 g2
  have e1 := own_div_n hx hy hz
  have h3 : (own_z x).natAbs * FP.Core.one64 = (own_z V).natAbs * (own_z y).natAbs := by
    have := congrArg Int.natAbs h
    rw [Int.natAbs_mul, Int.natAbs_mul, ← zV] at this
    exact this
  have l1 := own_rr_le (s := false) (A := (own_z x).natAbs) (B := (own_z y).natAbs) (V := V) (by omega) fV.noNaN (Nat.le_of_eq h3)
  have l2 := own_rr_ge (s := false) (A := (own_z x).natAbs) (B := (own_z y).natAbs) (V := V) (by omega) (Nat.le_of_eq h3.symm)
  omega
theorem own_eqz {x y : UInt64} (o : CmpOp) (hx : NoNaN64 x) (hy : NoNaN64 y) (h : own_z x = own_z y) : cmpValue (FP.dcmp x y) o = 0 := by
  rw [own_cE o (own_cmpz hx hy), own_c_eq h]
theorem own_ge0 {x : UInt64} (h : 0 ≤ own_z x) : ¬ own_z x < own_z FP.dconst0 := by rw [own_zi own_d0, Int.zero_mul]; exact Int.not_lt.mpr h
theorem own_le1 {x : UInt64} (h : own_z x ≤ own_z FP.dconst1) : ¬ own_z FP.dconst1 < own_z x := Int.not_lt.mpr h
/-! arrays by the list of what they hold -/
def own_A (Z : State) (h : Heap) (a : Addr) (ty : FieldType) (vs : List Value) : Prop := ∃ c : Cell, Arr Z h a c ty ∧ c.slots.toList = vs
section OwnArr
variable {p : Program} {l : Launch} {e : Env} {R : Room} {s : State} {m : MethodId} {args : Array Value} {below : List Frame} {meth : Method} {c : Code} {T : State} {locs : List Loc} {cells slots : Nat} {Z : State} {h h' : Heap} {a b : Addr} {ty : FieldType} {vs : List Value} {sl : Nat} {v : Value} {ws : List Addr}
theorem own_A.lt (F : own_A Z h a ty vs) : a < h.size := by obtain ⟨c, A, -⟩ := F; exact A.lt
theorem own_A.ext (F : own_A Z h a ty vs) (E : Ext h h') : own_A Z h' a ty vs := by obtain ⟨c, A, r⟩ := F; exact ⟨c, A.ext E, r⟩
theorem own_A.other (F : own_A Z h b ty vs) (W : Wr h h' a sl v) (q : b ≠ a) : own_A Z h' b ty vs := by obtain ⟨c, A, r⟩ := F; exact ⟨c, A.other W q, r⟩
theorem own_A.keep (F : own_A Z h a ty vs) (K : Keep h h' ws) (q : a ∉ ws) : own_A Z h' a ty vs := by obtain ⟨c, A, r⟩ := F; exact ⟨c, ⟨K.2.1 a c A.1 q, A.2⟩, r⟩
theorem own_A.new {k : ClassId} {n : Int32} (A : Arr Z h a (newA k ty n) ty) : own_A Z h a ty (List.replicate n.toNatClampNeg (defaultValue ty)) := ⟨_, A, by simp [newA]⟩
theorem own_A.len (X : Stand p l e R s m args below meth c T locs cells slots) (hx : p.tables.exec = Jvm.exec) (hZ : Z.Warmed39 s.vm) (eT : T.heap = h) (F : own_A Z h a ty vs)
    {g : JFrame} (hg : g.method = m) {rest : List Value} (hs : g.stack = .ref a :: rest) (hd : decode c.code g.pc = .ok (.arraylength, 1)) (target : State)
    (hr : Steps p.tables e below (T.setTop { g with pc := g.pc + 1, stack := .int vs.length.toInt32 :: rest }) target) : Steps p.tables e below (T.setTop g) target := by
  obtain ⟨cl, A, rfl⟩ := F
  refine X.arraylength hx (cell := cl) (by rw [eT]; exact A.1) (State.isArrayOf_alike hZ.alike A.2.1) hg hs hd _ ?_
  rw [Array.length_toList] at hr; exact hr
theorem own_A.inb {cl : Cell} {j : Int32} (hj : ¬ j < 0) (hv : cl.slots.toList[j.toNatClampNeg]? = some v) : ¬ (j < 0 ∨ cl.slots.size ≤ j.toNatClampNeg) := by
  rintro (q | q)
  · exact hj q
  · rw [List.getElem?_eq_none (by rw [Array.length_toList]; exact q)] at hv; cases hv
theorem own_A.dld (X : Stand p l e R s m args below meth c T locs cells slots) (hx : p.tables.exec = Jvm.exec) (hZ : Z.Warmed39 s.vm) (eT : T.heap = h) (F : own_A Z h a .double vs) {j : Int32} (hj : ¬ j < 0) (hv : vs[j.toNatClampNeg]? = some v)
    {g : JFrame} (hg : g.method = m) {rest : List Value} (hs : g.stack = .int j :: .ref a :: rest) (hd : decode c.code g.pc = .ok (.daload, 1)) (target : State)
    (hr : Steps p.tables e below (T.setTop { g with pc := g.pc + 1, stack := v :: rest }) target) : Steps p.tables e below (T.setTop g) target := by
  obtain ⟨cl, A, rfl⟩ := F
  exact X.daload hx (by rw [eT]; exact A.1) (State.isArrayOf_alike hZ.alike A.2.1) A.2.2 (own_A.inb hj hv) (by rw [← Array.getElem?_toList]; exact hv) hg hs hd _ hr
theorem own_A.ild (X : Stand p l e R s m args below meth c T locs cells slots) (hx : p.tables.exec = Jvm.exec) (hZ : Z.Warmed39 s.vm) (eT : T.heap = h) (F : own_A Z h a .int vs) {j : Int32} (hj : ¬ j < 0) (hv : vs[j.toNatClampNeg]? = some v)
    {g : JFrame} (hg : g.method = m) {rest : List Value} (hs : g.stack = .int j :: .ref a :: rest) (hd : decode c.code g.pc = .ok (.iaload, 1)) (target : State)
    (hr : Steps p.tables e below (T.setTop { g with pc := g.pc + 1, stack := v :: rest }) target) : Steps p.tables e below (T.setTop g) target := by
  obtain ⟨cl, A, rfl⟩ := F
  exact X.iaload hx (by rw [eT]; exact A.1) (State.isArrayOf_alike hZ.alike A.2.1) A.2.2 (own_A.inb hj hv) (by rw [← Array.getElem?_toList]; exact hv) hg hs hd _ hr
theorem own_A.lld (X : Stand p l e R s m args below meth c T locs cells slots) (hx : p.tables.exec = Jvm.exec) (hZ : Z.Warmed39 s.vm) (eT : T.heap = h) (F : own_A Z h a .long vs) {j : Int32} (hj : ¬ j < 0) (hv : vs[j.toNatClampNeg]? = some v)
    {g : JFrame} (hg : g.method = m) {rest : List Value} (hs : g.stack = .int j :: .ref a :: rest) (hd : decode c.code g.pc = .ok (.laload, 1)) (target : State)
    (hr : Steps p.tables e below (T.setTop { g with pc := g.pc + 1, stack := v :: rest }) target) : Steps p.tables e below (T.setTop g) target := by
  obtain ⟨cl, A, rfl⟩ := F
  exact X.laload hx (by rw [eT]; exact A.1) (State.isArrayOf_alike hZ.alike A.2.1) A.2.2 (own_A.inb hj hv) (by rw [← Array.getElem?_toList]; exact hv) hg hs hd _ hr
theorem own_A.same {cl : Cell} (A : Arr Z h a cl ty) (W : Wr h h' a sl v) : own_A Z h' a ty (cl.slots.toList.set sl v) := ⟨_, A.same W, by simp [Cell.setSlot]⟩
theorem own_A.dst (X : Stand p l e R s m args below meth c T locs cells slots) (hx : p.tables.exec = Jvm.exec) (hZ : Z.Warmed39 s.vm) (eT : T.heap = h) (F : own_A Z h a .double vs) {j : Int32} {x : UInt64} (hj : ¬ j < 0) {o : Value} (hv : vs[j.toNatClampNeg]? = some o)
    {g : JFrame} (hg : g.method = m) {rest : List Value} (hs : g.stack = .double x :: .int j :: .ref a :: rest) (hd : decode c.code g.pc = .ok (.dastore, 1)) :
    ∃ T' h', Stand p l e R s m args below meth c T' (locs ++ [⟨a, j.toNatClampNeg⟩]) cells slots ∧ T'.heap = h' ∧ Wr h h' a j.toNatClampNeg (.double x) ∧ own_A Z h' a .double (vs.set j.toNatClampNeg (.double x)) ∧
      ∀ target, Steps p.tables e below (T'.setTop { g with pc := g.pc + 1, stack := rest }) target → Steps p.tables e below (T.setTop g) target := by
  obtain ⟨cl, A, rfl⟩ := F
  obtain ⟨T', h', X', e', W, st⟩ := stD X hx hZ eT A (own_A.inb hj hv) hg hs hd
  exact ⟨T', h', X', e', W, own_A.same A W, st⟩
theorem own_A.ist (X : Stand p l e R s m args below meth c T locs cells slots) (hx : p.tables.exec = Jvm.exec) (hZ : Z.Warmed39 s.vm) (eT : T.heap = h) (F : own_A Z h a .int vs) {j : Int32} {x : Int32} (hj : ¬ j < 0) {o : Value} (hv : vs[j.toNatClampNeg]? = some o)
    {g : JFrame} (hg : g.method = m) {rest : List Value} (hs : g.stack = .int x :: .int j :: .ref a :: rest) (hd : decode c.code g.pc = .ok (.iastore, 1)) :
    ∃ T' h', Stand p l e R s m args below meth c T' (locs ++ [⟨a, j.toNatClampNeg⟩]) cells slots ∧ T'.heap = h' ∧ Wr h h' a j.toNatClampNeg (.int x) ∧ own_A Z h' a .int (vs.set j.toNatClampNeg (.int x)) ∧
      ∀ target, Steps p.tables e below (T'.setTop { g with pc := g.pc + 1, stack := rest }) target → Steps p.tables e below (T.setTop g) target := by
  obtain ⟨cl, A, rfl⟩ := F
  obtain ⟨T', h', X', e', W, st⟩ := stI X hx hZ eT A (own_A.inb hj hv) hg hs hd
  exact ⟨T', h', X', e', W, own_A.same A W, st⟩
theorem own_A.lst (X : Stand p l e R s m args below meth c T locs cells slots) (hx : p.tables.exec = Jvm.exec) (hZ : Z.Warmed39 s.vm) (eT : T.heap = h) (F : own_A Z h a .long vs) {j : Int32} {x : Int64} (hj : ¬ j < 0) {o : Value} (hv : vs[j.toNatClampNeg]? = some o)
    {g : JFrame} (hg : g.method = m) {rest : List Value} (hs : g.stack = .long x :: .int j :: .ref a :: rest) (hd : decode c.code g.pc = .ok (.lastore, 1)) :
    ∃ T' h', Stand p l e R s m args below meth c T' (locs ++ [⟨a, j.toNatClampNeg⟩]) cells slots ∧ T'.heap = h' ∧ Wr h h' a j.toNatClampNeg (.long x) ∧ own_A Z h' a .long (vs.set j.toNatClampNeg (.long x)) ∧
      ∀ target, Steps p.tables e below (T'.setTop { g with pc := g.pc + 1, stack := rest }) target → Steps p.tables e below (T.setTop g) target := by
  obtain ⟨cl, A, rfl⟩ := F
  obtain ⟨T', h', X', e', W, st⟩ := stJ X hx hZ eT A (own_A.inb hj hv) hg hs hd
  exact ⟨T', h', X', e', W, own_A.same A W, st⟩
end OwnArr

theorem own_mxn : NoNaN64 (9218868437227405311 : UInt64) := by unfold NoNaN64; decide
theorem own_absle {x : UInt64} (h : Fin64 x) : ¬ own_z (9218868437227405311 : UInt64) < own_z (x &&& 0x7fffffffffffffff) := by
  have h1 := own_cmpz (abs_fin h).noNaN own_mxn
  have h2 := FP.Core.dcmp_key (a := x &&& 0x7fffffffffffffff) (b := (9218868437227405311 : UInt64)) (Fl.val64_no.mp (abs_fin h).noNaN) (Fl.val64_no.mp own_mxn)
  have h3 : (x &&& 0x7fffffffffffffff).toNat < 9218868437227405312 := by
    have := (Fl.fin64_iff x).mp h
    rw [FP.Core.mask_toNat]; exact this
  have h4 : FP.Core.dkey (x &&& 0x7fffffffffffffff) ≤ FP.Core.dkey (9218868437227405311 : UInt64) := by
    have e1 : FP.Core.dkey (9218868437227405311 : UInt64) = 9218868437227405311 := by decide +kernel
    rw [e1, FP.Core.mask_key]
    rw [FP.Core.mask_toNat] at h3
    omega
  intro q
  have h5 : FP.dcmp (x &&& 0x7fffffffffffffff) (9218868437227405311 : UInt64) = some .gt := by rw [h1, (FP.Core.compare_gt_iff _ _).mpr q]
  rw [show FP.dcmp (x &&& 0x7fffffffffffffff) (9218868437227405311 : UInt64) = FP.Core.dcmp (x &&& 0x7fffffffffffffff) (9218868437227405311 : UInt64) from rfl, h2] at h5
  have h6 := (FP.Core.compare_gt_iff _ _).mp (Option.some.inj h5)
  omega
theorem own_bk (p : Int32) {k : Int} (h0 : 0 ≤ k) (h8 : k ≤ 8) : (k * p.toInt).natAbs ≤ 2 ^ 53 ∧ -17179869184 ≤ k * p.toInt ∧ k * p.toInt ≤ 17179869184 := by
  have h1 := Int32.le_toInt p; have h2 := Int32.toInt_lt p
  have e : (k * p.toInt).natAbs ≤ 8 * 2147483648 := by rw [Int.natAbs_mul]; exact Nat.mul_le_mul (by omega) (by omega)
  have e5 : (2 : Nat) ^ 53 = 9007199254740992 := by decide
  omega
theorem own_sk (p q : Int32) {k : Int} (h0 : 0 ≤ k) (h8 : k ≤ 8) : (p.toInt + k * q.toInt).natAbs ≤ 2 ^ 53 := by
  have h1 := Int32.le_toInt p; have h2 := Int32.toInt_lt p; have h3 := own_bk q h0 h8
  have e5 : (2 : Nat) ^ 53 = 9007199254740992 := by decide
  omega
theorem own_el (p q k : Int32) (K : Int) (e : k.toInt = K) (h0 : 0 ≤ K) (h8 : K ≤ 8) : FP.Core.DInt (p.toInt + K * q.toInt) (FP.dadd (FP.i2d p) (FP.dmul (FP.i2d k) (FP.i2d q))) := by
  subst e
  exact FP.Core.dadd_int (FP.Core.i2d_int p) (FP.Core.dmul_int (FP.Core.i2d_int k) (FP.Core.i2d_int q) (own_bk q h0 h8).1) (own_sk p q h0 h8)
theorem own_nn8 (p q : Int32) : ∀ k : Int32, 0 ≤ k.toInt → k.toInt ≤ 8 → NoNaN64 (FP.dmul (FP.i2d k) (FP.i2d q)) ∧ NoNaN64 (FP.dadd (FP.i2d p) (FP.dmul (FP.i2d k) (FP.i2d q))) := fun k h0 h8 =>
  ⟨own_nn (FP.Core.dmul_int (FP.Core.i2d_int k) (FP.Core.i2d_int q) (own_bk q h0 h8).1), own_nn (own_el p q k _ rfl h0 h8)⟩
theorem own_le (p q k : Int32) (K : Int) (e : k.toInt = K) (h0 : 0 ≤ K) (h8 : K ≤ 8) : FP.Core.DInt (p.toInt + K * q.toInt) (FP.l2d (p.toInt64 + (k.toInt64 * q.toInt64))) := by
  subst e
  have h1 := own_lm (a := k.toInt64) (b := q.toInt64) (by rw [Jvm.Kit.i64_of_i32, Jvm.Kit.i64_of_i32]; exact (own_bk q h0 h8).1)
  rw [Jvm.Kit.i64_of_i32, Jvm.Kit.i64_of_i32] at h1
  have h2 := Int32.le_toInt p; have h3 := Int32.toInt_lt p; have h4 := own_bk q h0 h8
  refine own_dl _ ?_ (own_sk p q h0 h8)
  rw [Jvm.Kit.i64_add (by rw [h1, Jvm.Kit.i64_of_i32]; omega) (by rw [h1, Jvm.Kit.i64_of_i32]; omega), h1, Jvm.Kit.i64_of_i32]
theorem own_n8 (p : Int32) {N : Int32} (h : N = (p &&& (7 : Int32)) + (1 : Int32)) : N = 1 ∨ N = 2 ∨ N = 3 ∨ N = 4 ∨ N = 5 ∨ N = 6 ∨ N = 7 ∨ N = 8 := by
  have h1 := Jvm.Kit.i32_mask p 7 (k := 3) (by decide) (by decide)
  have h3 : N.toInt = (p &&& (7 : Int32)).toInt + 1 := by rw [h]; exact Jvm.Kit.i32_add (q := 1) (by show _ ≤ _ + (1 : Int); omega) (by show _ + (1 : Int) < _; omega)
  have h2 : N.toInt = 1 ∨ N.toInt = 2 ∨ N.toInt = 3 ∨ N.toInt = 4 ∨ N.toInt = 5 ∨ N.toInt = 6 ∨ N.toInt = 7 ∨ N.toInt = 8 := by omega
  rcases h2 with q | q | q | q | q | q | q | q
  · exact Or.inl (Int32.toInt_inj.mp q)
  · exact Or.inr (Or.inl (Int32.toInt_inj.mp q))
  · exact Or.inr (Or.inr (Or.inl (Int32.toInt_inj.mp q)))
  · exact Or.inr (Or.inr (Or.inr (Or.inl (Int32.toInt_inj.mp q))))
  · exact Or.inr (Or.inr (Or.inr (Or.inr (Or.inl (Int32.toInt_inj.mp q)))))
  · exact Or.inr (Or.inr (Or.inr (Or.inr (Or.inr (Or.inl (Int32.toInt_inj.mp q))))))
  · exact Or.inr (Or.inr (Or.inr (Or.inr (Or.inr (Or.inr (Or.inl (Int32.toInt_inj.mp q)))))))
  · exact Or.inr (Or.inr (Or.inr (Or.inr (Or.inr (Or.inr (Or.inr (Int32.toInt_inj.mp q)))))))

def QrmR (Z : State) (a : Addr) (h0 : Heap) (n0 : Nat) (vQ : Option Value) (hQ : Heap) (LQ : List Loc) : Prop := vQ = none ∧ Fr n0 LQ ∧ hQ = h0
theorem ef_rmR (m : MethodId) (a : Addr) : entryFrame m #[(.ref a)] 1 = mkF m 0 #[vr a] [] := by first | (simp [entryFrame, mkF, argsToLocals, Value.category]; done) | rfl
abbrev mn0 : MethodName := ⟨"java/lang/Record", "<init>", "()V"⟩
theorem pn_java_lang_Record : plainName "java/lang/Record" = true := by first | (simp [plainName, overriddenIn]; done) | decide +kernel
theorem d_jdk_30_method_1_code_0 : decode jdk_30_method_1_code 0 = .ok (.aload_n 0, 1) := by decide +kernel
theorem d_jdk_30_method_1_code_1 : decode jdk_30_method_1_code 1 = .ok (.invokespecial 1, 3) := by decide +kernel
def tw11 {Z : State} {a0 : Array Value} (hw : ∀ d ∈ tables_1, d.before a0 Z = true) := hw _ (List.mem_of_getElem? (i := 11) rfl)
def tw12 {Z : State} {a0 : Array Value} (hw : ∀ d ∈ tables_1, d.before a0 Z = true) := hw _ (List.mem_of_getElem? (i := 12) rfl)
def tw13 {Z : State} {a0 : Array Value} (hw : ∀ d ∈ tables_1, d.before a0 Z = true) := hw _ (List.mem_of_getElem? (i := 13) rfl)
theorem d_jdk_30_method_1_code_4 : decode jdk_30_method_1_code 4 = .ok (.return_, 1) := by decide +kernel
set_option maxRecDepth 65536 in
set_option maxHeartbeats 40000000 in
theorem rmR (l : Launch) (Z : State) (a0 : Array Value) (hw : ∀ d ∈ tables_1, d.before a0 Z = true) (ws : List Jvm.Cond) (a : Addr) (h0 : Heap) (n0 : Nat) (Z0 : n0 ≤ h0.size)  :
    MetFree l mn0 (head1 (Jvm.Cond.code mn0 jdk_30_method_1_code 1 none :: ws) ({ frames := 1, cells := 0, slots := 0, locals := 12 } : Room)) (fun aA U => aA = #[(.ref a)] ∧ Z.Warmed39 U.vm ∧ U.heap = h0) (fun _ _ _ _ _ => True) (fun _ U o U' => ∃ vR LR, o = .returned vR ∧ QrmR Z a h0 n0 vR U'.heap LR ∧ FrameEnd U o U' LR ({ frames := 1, cells := 0, slots := 0, locals := 12 } : Room).cells ({ frames := 1, cells := 0, slots := 0, locals := 12 } : Room).slots) := by
  refine MetFree.of_bodySF (plainFor_of_name pn_java_lang_Record) hisR ?_
  intro p e s m args below meth c s₁ Bd hml0 hPre hKk
  obtain ⟨rfl, hZ, hh⟩ := hPre
  have hx := Bd.exec
  have hby := Bd.bytes
  have hml : c.maxLocals = 1 := hml0
  have hown : s.vm.findClass "java/lang/Record" = some m.cls := findClass_of_methodNamed Bd.named
  have hnm := (name_of_methodNamed Bd.named Bd.method).1
  have X0 : Stand p l e ({ frames := 1, cells := 0, slots := 0, locals := 12 } : Room) s m #[(.ref a)] below meth c s₁ [] 0 0 := Stand.of_body Bd
  have e0 : s₁.heap = h0 := by rw [← hh, Bd.state]; rfl
  have N0 := Fr.nil n0
  obtain ⟨E0, hE0⟩ : ∃ zE : State, zE = s₁.setTop (entryFrame m #[(.ref a)] 1) := ⟨_, rfl⟩
  have k0 : own_G p e below E0 s₁ (mkF m 0 #[vr a] []) := fun tz kz => hE0 ▸ castTop (ef_rmR m a) kz
  have k1 : own_G p e below E0 s₁ (mkF m 1 #[vr a] [(.ref a)]) := by
    intro tQ kk
    refine k0 tQ ?_
    refine XS.aloadN X0.here hx rfl (hb hby d_jdk_30_method_1_code_0) rfl rfl ?_
    exact kk
  clear k0
  obtain ⟨T2, X3, e4, st5⟩ := initO X0 hx hZ hown (tw11 hw) (tw12 hw) (tw13 hw) e0 (g := (mkF m 1 #[vr a] [(.ref a)])) rfl (by rw [hml]; rfl) rfl (hb hby d_jdk_30_method_1_code_1) (by decide) (W := 0) (by show 2 * 0 + _ ≤ _; exact Nat.le_of_eq rfl) (by decide)
  have k6 : own_G p e below E0 T2 (mkF m 4 #[vr a] []) := fun tQ kk => k1 tQ (st5 _ kk)
  clear k1 st5
  obtain ⟨fs, hr, hrun, hended, hW, hsame⟩ := X3.leave (v := none) (fun _ => rfl)
  have hrun0 := k6 _ (X3.returnOut hx Bd.returns (hb hby d_jdk_30_method_1_code_4) hr)
  subst hE0
  refine ⟨_, _, hrun0, hrun, hended, _, _, rfl, ?_, ⟨_, rfl⟩, hW, hsame.mono (by decide) (by decide)⟩
  show QrmR Z a h0 n0 _ T2.heap _
  rw [e4]
  exact ⟨rfl, N0, rfl⟩
def QrmY (Z : State) (n : Int32) (h0 : Heap) (n0 : Nat) (vQ : Option Value) (hQ : Heap) (LQ : List Loc) : Prop := vQ = none ∧ Fr n0 LQ ∧ hQ = h0
theorem ef_rmY (m : MethodId) (n : Int32) : entryFrame m #[(.int n)] 1 = mkF m 0 #[vi n] [] := by first | (simp [entryFrame, mkF, argsToLocals, Value.category]; done) | rfl
abbrev mn1 : MethodName := ⟨"com/example/capwright/capwright/premise/Capitalization", "requireYears", "(I)V"⟩
theorem pn_com_example_capwright_capwright_premise_Capitalization : plainName "com/example/capwright/capwright/premise/Capitalization" = true := by first | (simp [plainName, overriddenIn]; done) | decide +kernel
theorem d_prog_70_method_3_code_0 : decode prog_70_method_3_code 0 = .ok (.iload_n 0, 1) := by decide +kernel
theorem d_prog_70_method_3_code_1 : decode prog_70_method_3_code 1 = .ok (.iconst 1, 1) := by decide +kernel
theorem d_prog_70_method_3_code_2 : decode prog_70_method_3_code 2 = .ok (.if_icmp .ge 17, 3) := by decide +kernel
theorem d_prog_70_method_3_code_19 : decode prog_70_method_3_code 19 = .ok (.return_, 1) := by decide +kernel
set_option maxRecDepth 65536 in
set_option maxHeartbeats 40000000 in
theorem rmY (l : Launch) (Z : State) (a0 : Array Value) (hw : ∀ d ∈ tables_1, d.before a0 Z = true) (ws : List Jvm.Cond) (n : Int32) (h0 : Heap) (n0 : Nat) (Z0 : n0 ≤ h0.size) (hn : ¬ n < 1) :
    MetFree l mn1 (head1 (Jvm.Cond.code mn1 prog_70_method_3_code 1 none :: ws) ({ frames := 0, cells := 0, slots := 0, locals := 0 } : Room)) (fun aA U => aA = #[(.int n)] ∧ Z.Warmed39 U.vm ∧ U.heap = h0) (fun _ _ _ _ _ => True) (fun _ U o U' => ∃ vR LR, o = .returned vR ∧ QrmY Z n h0 n0 vR U'.heap LR ∧ FrameEnd U o U' LR ({ frames := 0, cells := 0, slots := 0, locals := 0 } : Room).cells ({ frames := 0, cells := 0, slots := 0, locals := 0 } : Room).slots) := by
  refine MetFree.of_bodySF (plainFor_of_name pn_com_example_capwright_capwright_premise_Capitalization) hisR ?_
  intro p e s m args below meth c s₁ Bd hml0 hPre hKk
  obtain ⟨rfl, hZ, hh⟩ := hPre
  have hx := Bd.exec
  have hby := Bd.bytes
  have hml : c.maxLocals = 1 := hml0
  have hown : s.vm.findClass "com/example/capwright/capwright/premise/Capitalization" = some m.cls := findClass_of_methodNamed Bd.named
  have hnm := (name_of_methodNamed Bd.named Bd.method).1
  have X0 : Stand p l e ({ frames := 0, cells := 0, slots := 0, locals := 0 } : Room) s m #[(.int n)] below meth c s₁ [] 0 0 := Stand.of_body Bd
  have e0 : s₁.heap = h0 := by rw [← hh, Bd.state]; rfl
  have N0 := Fr.nil n0
  obtain ⟨E0, hE0⟩ : ∃ zE : State, zE = s₁.setTop (entryFrame m #[(.int n)] 1) := ⟨_, rfl⟩
  have k0 : own_G p e below E0 s₁ (mkF m 0 #[vi n] []) := fun tz kz => hE0 ▸ castTop (ef_rmY m n) kz
  have k7 : own_G p e below E0 s₁ (mkF m 19 #[vi n] []) := by
    intro tQ kk
    refine k0 tQ ?_
    refine XS.iloadN X0.here hx rfl (hb hby d_prog_70_method_3_code_0) rfl ?_
    refine XS.iconst X0.here hx rfl (hb hby d_prog_70_method_3_code_1) ?_
    refine XS.icmpYes X0.here hx rfl (pc0 := 2) (pc' := 19) rfl (hb hby d_prog_70_method_3_code_2) rfl (own_ic_geY hn) (by decide) (by decide) ?_
    exact kk
  clear k0
  obtain ⟨fs, hr, hrun, hended, hW, hsame⟩ := X0.leave (v := none) (fun _ => rfl)
  have hrun0 := k7 _ (X0.returnOut hx Bd.returns (hb hby d_prog_70_method_3_code_19) hr)
  subst hE0
  refine ⟨_, _, hrun0, hrun, hended, _, _, rfl, ?_, ⟨_, rfl⟩, hW, hsame.mono (by decide) (by decide)⟩
  show QrmY Z n h0 n0 _ s₁.heap _
  rw [e0]
  exact ⟨rfl, N0, rfl⟩
def QrmF (Z : State) (x : UInt64) (h0 : Heap) (n0 : Nat) (vQ : Option Value) (hQ : Heap) (LQ : List Loc) : Prop := vQ = some (.int (1 : Int32)) ∧ Fr n0 LQ ∧ hQ = h0
theorem ef_rmF (m : MethodId) (x : UInt64) : entryFrame m #[(.double x)] 2 = mkF m 0 #[vd x, ss] [] := by first | (simp [entryFrame, mkF, argsToLocals, Value.category]; done) | rfl
abbrev mn2 : MethodName := ⟨"java/lang/Double", "isFinite", "(D)Z"⟩
theorem pn_java_lang_Double : plainName "java/lang/Double" = true := by first | (simp [plainName, overriddenIn]; done) | decide +kernel
theorem d_jdk_117_method_8_code_0 : decode jdk_117_method_8_code 0 = .ok (.dload_n 0, 1) := by decide +kernel
theorem d_jdk_117_method_8_code_1 : decode jdk_117_method_8_code 1 = .ok (.invokestatic 38, 3) := by decide +kernel
def tw22 {Z : State} {a0 : Array Value} (hw : ∀ d ∈ tables_1, d.before a0 Z = true) := hw _ (List.mem_of_getElem? (i := 22) rfl)
def tw23 {Z : State} {a0 : Array Value} (hw : ∀ d ∈ tables_1, d.before a0 Z = true) := hw _ (List.mem_of_getElem? (i := 23) rfl)
def tw24 {Z : State} {a0 : Array Value} (hw : ∀ d ∈ tables_1, d.before a0 Z = true) := hw _ (List.mem_of_getElem? (i := 24) rfl)
def tw25 {Z : State} {a0 : Array Value} (hw : ∀ d ∈ tables_1, d.before a0 Z = true) := hw _ (List.mem_of_getElem? (i := 25) rfl)
theorem pd_3 : parseMethodDescriptor "(D)D" = some ⟨[.double], some .double⟩ := by decide +kernel
theorem d_jdk_117_method_8_code_4 : decode jdk_117_method_8_code 4 = .ok (.ldc2_w 111, 3) := by decide +kernel
def tw26 {Z : State} {a0 : Array Value} (hw : ∀ d ∈ tables_1, d.before a0 Z = true) := hw _ (List.mem_of_getElem? (i := 26) rfl)
theorem d_jdk_117_method_8_code_7 : decode jdk_117_method_8_code 7 = .ok (.dcmp .g, 1) := by decide +kernel
theorem d_jdk_117_method_8_code_8 : decode jdk_117_method_8_code 8 = .ok (.ifCond .gt 7, 3) := by decide +kernel
theorem d_jdk_117_method_8_code_11 : decode jdk_117_method_8_code 11 = .ok (.iconst 1, 1) := by decide +kernel
theorem d_jdk_117_method_8_code_12 : decode jdk_117_method_8_code 12 = .ok (.goto 4, 3) := by decide +kernel
theorem d_jdk_117_method_8_code_16 : decode jdk_117_method_8_code 16 = .ok (.ireturn, 1) := by decide +kernel
set_option maxRecDepth 65536 in
set_option maxHeartbeats 40000000 in
theorem rmF (l : Launch) (Z : State) (a0 : Array Value) (hw : ∀ d ∈ tables_1, d.before a0 Z = true) (ws : List Jvm.Cond) (x : UInt64) (h0 : Heap) (n0 : Nat) (Z0 : n0 ≤ h0.size) (fx : Fin64 x) :
    MetFree l mn2 (head1 (Jvm.Cond.code mn2 jdk_117_method_8_code 2 (some .boolean) :: ws) ({ frames := 1, cells := 0, slots := 0, locals := 13 } : Room)) (fun aA U => aA = #[(.double x)] ∧ Z.Warmed39 U.vm ∧ U.heap = h0) (fun _ _ _ _ _ => True) (fun _ U o U' => ∃ vR LR, o = .returned vR ∧ QrmF Z x h0 n0 vR U'.heap LR ∧ FrameEnd U o U' LR ({ frames := 1, cells := 0, slots := 0, locals := 13 } : Room).cells ({ frames := 1, cells := 0, slots := 0, locals := 13 } : Room).slots) := by
  refine MetFree.of_bodySF (plainFor_of_name pn_java_lang_Double) hisR ?_
  intro p e s m args below meth c s₁ Bd hml0 hPre hKk
  obtain ⟨rfl, hZ, hh⟩ := hPre
  have hx := Bd.exec
  have hby := Bd.bytes
  have hml : c.maxLocals = 2 := hml0
  have hown : s.vm.findClass "java/lang/Double" = some m.cls := findClass_of_methodNamed Bd.named
  have hnm := (name_of_methodNamed Bd.named Bd.method).1
  have X0 : Stand p l e ({ frames := 1, cells := 0, slots := 0, locals := 13 } : Room) s m #[(.double x)] below meth c s₁ [] 0 0 := Stand.of_body Bd
  have e0 : s₁.heap = h0 := by rw [← hh, Bd.state]; rfl
  have N0 := Fr.nil n0
  obtain ⟨E0, hE0⟩ : ∃ zE : State, zE = s₁.setTop (entryFrame m #[(.double x)] 2) := ⟨_, rfl⟩
  have k0 : own_G p e below E0 s₁ (mkF m 0 #[vd x, ss] []) := fun tz kz => hE0 ▸ castTop (ef_rmF m x) kz
  have k8 : own_G p e below E0 s₁ (mkF m 1 #[vd x, ss] [(.double x)]) := by
    intro tQ kk
    refine k0 tQ ?_
    refine XS.dloadN X0.here hx rfl (hb hby d_jdk_117_method_8_code_0) rfl ?_
    exact kk
  clear k0
  obtain ⟨T9, X10, e11, st12⟩ := natS X0 hx hZ hown (tw22 hw) (tw23 hw) (tw24 hw) (tw25 hw) (by decide) e0 (W := 0) (fun c4 => Jvm.Free.Fl.Abs.absD_pays x c4 (by decide) (by decide)) (g := (mkF m 1 #[vd x, ss] [(.double x)])) rfl (by rw [hml]; rfl) (argsL := [(.double x)]) (rest := []) (lenOf pd_3 rfl) rfl (by show 2 * 0 + _ ≤ _; exact Nat.le_of_eq rfl) (hb hby d_jdk_117_method_8_code_1) (by decide) (by decide) ⟨rfl, fx.noNaN⟩ rfl
  have k13 : own_G p e below E0 T9 (mkF m 4 #[vd x, ss] [(.double (x &&& 0x7fffffffffffffff))]) := fun tQ kk => k8 tQ (st12 _ kk)
  clear k8 st12
  have st14 := X10.ldc2DoubleC hx hown (mvT hZ (tw26 hw)) (g := (mkF m 4 #[vd x, ss] [(.double (x &&& 0x7fffffffffffffff))])) rfl (hb hby d_jdk_117_method_8_code_4)
  have k15 : own_G p e below E0 T9 (mkF m 7 #[vd x, ss] [(.double (9218868437227405311 : UInt64)), (.double (x &&& 0x7fffffffffffffff))]) := fun tQ kk => k13 tQ (st14 _ kk)
  clear k13 st14
  have k16 : own_G p e below E0 T9 (mkF m 16 #[vd x, ss] [(.int (1 : Int32))]) := by
    intro tQ kk
    refine k15 tQ ?_
    refine XS.dcmpS (v := (own_c (own_z (x &&& 0x7fffffffffffffff)) (own_z (9218868437227405311 : UInt64)))) X10.here hx rfl (hb hby d_jdk_117_method_8_code_7) rfl (own_cE .g (own_cmpz (abs_fin fx).noNaN own_mxn)) ?_
    refine XS.ifNo X10.here hx rfl (hb hby d_jdk_117_method_8_code_8) rfl (own_c_gtN (own_absle fx)) ?_
    refine XS.iconst X10.here hx rfl (hb hby d_jdk_117_method_8_code_11) ?_
    refine XS.goto X10.here hx rfl (pc0 := 12) (pc' := 16) rfl (hb hby d_jdk_117_method_8_code_12) (by decide) (by decide) ?_
    exact kk
  clear k15
  obtain ⟨fs, hr, hrun, hended, hW, hsame⟩ := X10.leave (v := some (.int (1 : Int32))) (fun h => by rw [Bd.returns] at h; cases h)
  have hrun0 := k16 _ (retOut X10 hx Bd.returns (t := .boolean) rfl (Or.inl ⟨rfl, Or.inr (Or.inl rfl), _, rfl⟩) (hb hby d_jdk_117_method_8_code_16) hr)
  subst hE0
  refine ⟨_, _, hrun0, hrun, hended, _, _, rfl, ?_, ⟨_, rfl⟩, hW, hsame.mono (by decide) (by decide)⟩
  show QrmF Z x h0 n0 _ T9.heap _
  rw [e11]
  exact ⟨rfl, N0, rfl⟩
abbrev fd4 (Z : State) (h : Heap) (a : Addr) (v : Value) : Prop := Fld Z h a "com/example/capwright/capwright/premise/ConstantAmountChange" "yieldRate" "D" v
abbrev fd5 (Z : State) (h : Heap) (a : Addr) (v : Value) : Prop := Fld Z h a "com/example/capwright/capwright/premise/ConstantAmountChange" "years" "I" v
abbrev fd6 (Z : State) (h : Heap) (a : Addr) (v : Value) : Prop := Fld Z h a "com/example/capwright/capwright/premise/ConstantAmountChange" "step" "D" v
def QrmI (Z : State) (a : Addr) (x : UInt64) (n : Int32) (z : UInt64) (h0 : Heap) (n0 : Nat) (vQ : Option Value) (hQ : Heap) (LQ : List Loc) : Prop := vQ = none ∧ Fr n0 LQ ∧ Keep h0 hQ [a] ∧ (fd4 Z hQ a (.double x)) ∧ (fd5 Z hQ a (.int n)) ∧ (fd6 Z hQ a (.double z))
theorem ef_rmI (m : MethodId) (a : Addr) (x : UInt64) (n : Int32) (z : UInt64) : entryFrame m #[(.ref a), (.double x), (.int n), (.double z)] 6 = mkF m 0 #[vr a, vd x, ss, vi n, vd z, ss] [] := by first | (simp [entryFrame, mkF, argsToLocals, Value.category]; done) | rfl
abbrev xa7 (Z : State) (h : Heap) (a : Addr) : Prop := Exa Z h a "com/example/capwright/capwright/premise/ConstantAmountChange"
abbrev mn8 : MethodName := ⟨"com/example/capwright/capwright/premise/ConstantAmountChange", "<init>", "(DID)V"⟩
theorem pn_com_example_capwright_capwright_premise_ConstantAmountChange : plainName "com/example/capwright/capwright/premise/ConstantAmountChange" = true := by first | (simp [plainName, overriddenIn]; done) | decide +kernel
theorem d_prog_72_method_1_code_0 : decode prog_72_method_1_code 0 = .ok (.aload_n 0, 1) := by decide +kernel
theorem d_prog_72_method_1_code_1 : decode prog_72_method_1_code 1 = .ok (.invokespecial 1, 3) := by decide +kernel
def tw6 {Z : State} {a0 : Array Value} (hw : ∀ d ∈ tables_1, d.before a0 Z = true) := hw _ (List.mem_of_getElem? (i := 6) rfl)
def tw10 {Z : State} {a0 : Array Value} (hw : ∀ d ∈ tables_1, d.before a0 Z = true) := hw _ (List.mem_of_getElem? (i := 10) rfl)
def tw9 {Z : State} {a0 : Array Value} (hw : ∀ d ∈ tables_1, d.before a0 Z = true) := hw _ (List.mem_of_getElem? (i := 9) rfl)
theorem pd_9 : parseMethodDescriptor "()V" = some ⟨[], none⟩ := by decide +kernel
def tw7 {Z : State} {a0 : Array Value} (hw : ∀ d ∈ tables_1, d.before a0 Z = true) := hw _ (List.mem_of_getElem? (i := 7) rfl)
theorem d_prog_72_method_1_code_4 : decode prog_72_method_1_code 4 = .ok (.iload_n 3, 1) := by decide +kernel
theorem d_prog_72_method_1_code_5 : decode prog_72_method_1_code 5 = .ok (.invokestatic 7, 3) := by decide +kernel
def tw14 {Z : State} {a0 : Array Value} (hw : ∀ d ∈ tables_1, d.before a0 Z = true) := hw _ (List.mem_of_getElem? (i := 14) rfl)
def tw17 {Z : State} {a0 : Array Value} (hw : ∀ d ∈ tables_1, d.before a0 Z = true) := hw _ (List.mem_of_getElem? (i := 17) rfl)
def tw16 {Z : State} {a0 : Array Value} (hw : ∀ d ∈ tables_1, d.before a0 Z = true) := hw _ (List.mem_of_getElem? (i := 16) rfl)
theorem pd_10 : parseMethodDescriptor "(I)V" = some ⟨[.int], none⟩ := by decide +kernel
def tw15 {Z : State} {a0 : Array Value} (hw : ∀ d ∈ tables_1, d.before a0 Z = true) := hw _ (List.mem_of_getElem? (i := 15) rfl)
theorem d_prog_72_method_1_code_8 : decode prog_72_method_1_code 8 = .ok (.dload 4, 2) := by decide +kernel
theorem d_prog_72_method_1_code_10 : decode prog_72_method_1_code 10 = .ok (.invokestatic 13, 3) := by decide +kernel
def tw18 {Z : State} {a0 : Array Value} (hw : ∀ d ∈ tables_1, d.before a0 Z = true) := hw _ (List.mem_of_getElem? (i := 18) rfl)
def tw21 {Z : State} {a0 : Array Value} (hw : ∀ d ∈ tables_1, d.before a0 Z = true) := hw _ (List.mem_of_getElem? (i := 21) rfl)
def tw20 {Z : State} {a0 : Array Value} (hw : ∀ d ∈ tables_1, d.before a0 Z = true) := hw _ (List.mem_of_getElem? (i := 20) rfl)
theorem pd_11 : parseMethodDescriptor "(D)Z" = some ⟨[.double], some .boolean⟩ := by decide +kernel
def tw19 {Z : State} {a0 : Array Value} (hw : ∀ d ∈ tables_1, d.before a0 Z = true) := hw _ (List.mem_of_getElem? (i := 19) rfl)
theorem d_prog_72_method_1_code_13 : decode prog_72_method_1_code 13 = .ok (.ifCond .ne 18, 3) := by decide +kernel
theorem d_prog_72_method_1_code_31 : decode prog_72_method_1_code 31 = .ok (.aload_n 0, 1) := by decide +kernel
theorem d_prog_72_method_1_code_32 : decode prog_72_method_1_code 32 = .ok (.dload_n 1, 1) := by decide +kernel
theorem d_prog_72_method_1_code_33 : decode prog_72_method_1_code 33 = .ok (.putfield 28, 3) := by decide +kernel
def tw27 {Z : State} {a0 : Array Value} (hw : ∀ d ∈ tables_1, d.before a0 Z = true) := hw _ (List.mem_of_getElem? (i := 27) rfl)
def tw28 {Z : State} {a0 : Array Value} (hw : ∀ d ∈ tables_1, d.before a0 Z = true) := hw _ (List.mem_of_getElem? (i := 28) rfl)
def tw1 {Z : State} {a0 : Array Value} (hw : ∀ d ∈ tables_1, d.before a0 Z = true) := hw _ (List.mem_of_getElem? (i := 1) rfl)
def tw30 {Z : State} {a0 : Array Value} (hw : ∀ d ∈ tables_1, d.before a0 Z = true) := hw _ (List.mem_of_getElem? (i := 30) rfl)
def tw32 {Z : State} {a0 : Array Value} (hw : ∀ d ∈ tables_1, d.before a0 Z = true) := hw _ (List.mem_of_getElem? (i := 32) rfl)
theorem d_prog_72_method_1_code_36 : decode prog_72_method_1_code 36 = .ok (.aload_n 0, 1) := by decide +kernel
theorem d_prog_72_method_1_code_37 : decode prog_72_method_1_code 37 = .ok (.iload_n 3, 1) := by decide +kernel
theorem d_prog_72_method_1_code_38 : decode prog_72_method_1_code 38 = .ok (.putfield 34, 3) := by decide +kernel
def tw29 {Z : State} {a0 : Array Value} (hw : ∀ d ∈ tables_1, d.before a0 Z = true) := hw _ (List.mem_of_getElem? (i := 29) rfl)
theorem d_prog_72_method_1_code_41 : decode prog_72_method_1_code 41 = .ok (.aload_n 0, 1) := by decide +kernel
theorem d_prog_72_method_1_code_42 : decode prog_72_method_1_code 42 = .ok (.dload 4, 2) := by decide +kernel
theorem d_prog_72_method_1_code_44 : decode prog_72_method_1_code 44 = .ok (.putfield 38, 3) := by decide +kernel
def tw31 {Z : State} {a0 : Array Value} (hw : ∀ d ∈ tables_1, d.before a0 Z = true) := hw _ (List.mem_of_getElem? (i := 31) rfl)
theorem d_prog_72_method_1_code_47 : decode prog_72_method_1_code 47 = .ok (.return_, 1) := by decide +kernel
set_option maxRecDepth 65536 in
set_option maxHeartbeats 40000000 in
theorem rmI (l : Launch) (Z : State) (a0 : Array Value) (hw : ∀ d ∈ tables_1, d.before a0 Z = true) (ws : List Jvm.Cond) (a : Addr) (x : UInt64) (n : Int32) (z : UInt64) (h0 : Heap) (n0 : Nat) (Z0 : n0 ≤ h0.size) (E1 : xa7 Z h0 a) (F0 : fd4 Z h0 a (.double (0 : UInt64))) (F1 : fd5 Z h0 a (.int (0 : Int32))) (F2 : fd6 Z h0 a (.double (0 : UInt64))) (ge_a : n0 ≤ a) (hn : ¬ n < 1) (fz : Fin64 z) :
    MetFree l mn8 (head1 (Jvm.Cond.code mn8 prog_72_method_1_code 6 none :: ws) ({ frames := 2, cells := 0, slots := 0, locals := 26 } : Room)) (fun aA U => aA = #[(.ref a), (.double x), (.int n), (.double z)] ∧ Z.Warmed39 U.vm ∧ U.heap = h0) (fun _ _ _ _ _ => True) (fun _ U o U' => ∃ vR LR, o = .returned vR ∧ QrmI Z a x n z h0 n0 vR U'.heap LR ∧ FrameEnd U o U' LR ({ frames := 2, cells := 0, slots := 0, locals := 26 } : Room).cells ({ frames := 2, cells := 0, slots := 0, locals := 26 } : Room).slots) := by
  refine MetFree.of_bodySF (plainFor_of_name pn_com_example_capwright_capwright_premise_ConstantAmountChange) hisR ?_
  intro p e s m args below meth c s₁ Bd hml0 hPre hKk
  obtain ⟨rfl, hZ, hh⟩ := hPre
  have hx := Bd.exec
  have hby := Bd.bytes
  have hml : c.maxLocals = 6 := hml0
  have hown : s.vm.findClass "com/example/capwright/capwright/premise/ConstantAmountChange" = some m.cls := findClass_of_methodNamed Bd.named
  have hnm := (name_of_methodNamed Bd.named Bd.method).1
  have X0 : Stand p l e ({ frames := 2, cells := 0, slots := 0, locals := 26 } : Room) s m #[(.ref a), (.double x), (.int n), (.double z)] below meth c s₁ [] 0 0 := Stand.of_body Bd
  have e0 : s₁.heap = h0 := by rw [← hh, Bd.state]; rfl
  have N0 := Fr.nil n0
  obtain ⟨E0, hE0⟩ : ∃ zE : State, zE = s₁.setTop (entryFrame m #[(.ref a), (.double x), (.int n), (.double z)] 6) := ⟨_, rfl⟩
  have k0 : own_G p e below E0 s₁ (mkF m 0 #[vr a, vd x, ss, vi n, vd z, ss] []) := fun tz kz => hE0 ▸ castTop (ef_rmI m a x n z) kz
  have K0 : Keep h0 h0 [a] := Keep.refl _ _
  have k17 : own_G p e below E0 s₁ (mkF m 1 #[vr a, vd x, ss, vi n, vd z, ss] [(.ref a)]) := by
    intro tQ kk
    refine k0 tQ ?_
    refine XS.aloadN X0.here hx rfl (hb hby d_prog_72_method_1_code_0) rfl rfl ?_
    exact kk
  clear k0
  obtain ⟨_, _, ⟨T18, L19, kc20, nc21⟩, -, X22, ⟨Lc23, hQ24, l25, y26, z27⟩, st28⟩ := X0.specialBack hx (y := mn0) rfl hown (mvT hZ (tw6 hw)) (mvT hZ (tw7 hw)) (mvT hZ (tw10 hw)) (by decide) (backOf (W := 0) (rmR l Z a0 hw [] a h0 n0 Z0 ) hZ (tw10 hw) (tw9 hw) (by decide) (by decide)) (g := (mkF m 1 #[vr a, vd x, ss, vi n, vd z, ss] [(.ref a)])) rfl (by rw [hml]; rfl) (Steps.refl _) (a := a) (argsL := []) (rest := []) (lenOf pd_9 rfl) rfl (by show 2 * 0 + _ ≤ _; exact Nat.le_of_eq rfl) (hb hby d_prog_72_method_1_code_1) (fun _ _ => ⟨rfl, e0, (by decide : 0 + 0 ≤ _), (by decide : 0 + 0 ≤ _)⟩)
  dsimp only [Pt.U, Pt.locs, Pt.cells, Pt.slots] at X22 l25 y26 z27 st28 hQ24
  subst l25 y26 z27
  obtain ⟨rfl, N29, e30⟩ := hQ24
  have N32 := Fr.app N0 N29
  have k33 : own_G p e below E0 T18 (mkF m 4 #[vr a, vd x, ss, vi n, vd z, ss] []) := fun tQ kk => k17 tQ (st28.trans kk)
  clear k17 st28
  have k34 : own_G p e below E0 T18 (mkF m 5 #[vr a, vd x, ss, vi n, vd z, ss] [(.int n)]) := by
    intro tQ kk
    refine k33 tQ ?_
    refine XS.iloadN X22.here hx rfl (hb hby d_prog_72_method_1_code_4) rfl ?_
    exact kk
  clear k33
  obtain ⟨_, _, ⟨T35, L36, kc37, nc38⟩, -, X39, ⟨Lc40, hQ41, l42, y43, z44⟩, st45⟩ := Jvm.LawKit.callS X22 hx (y := mn1) hown (mvT hZ (tw14 hw)) (mvT hZ (tw15 hw)) (mvT hZ (tw16 hw)) (mvT hZ (tw17 hw)) (by decide) (backOf (W := 0) (rmY l Z a0 hw [] n h0 n0 Z0 hn) hZ (tw17 hw) (tw16 hw) (by decide) (by decide)) (g := (mkF m 5 #[vr a, vd x, ss, vi n, vd z, ss] [(.int n)])) rfl (by rw [hml]; rfl) (argsL := [(.int n)]) (rest := []) (lenOf pd_10 rfl) rfl (by show 2 * 0 + _ ≤ _; exact Nat.le_of_eq rfl) (hb hby d_prog_72_method_1_code_5) (fun _ _ => ⟨rfl, e30, (by decide : 0 + 0 ≤ _), (by decide : 0 + 0 ≤ _)⟩)
  dsimp only [Pt.U, Pt.locs, Pt.cells, Pt.slots] at X39 l42 y43 z44 st45 hQ41
  subst l42 y43 z44
  obtain ⟨rfl, N46, e47⟩ := hQ41
  have N49 := Fr.app N32 N46
  have k50 : own_G p e below E0 T35 (mkF m 8 #[vr a, vd x, ss, vi n, vd z, ss] []) := fun tQ kk => k34 tQ (st45 _ kk)
  clear k34 st45
  have k51 : own_G p e below E0 T35 (mkF m 10 #[vr a, vd x, ss, vi n, vd z, ss] [(.double z)]) := by
    intro tQ kk
    refine k50 tQ ?_
    refine XS.dload X39.here hx rfl (hb hby d_prog_72_method_1_code_8) rfl ?_
    exact kk
  clear k50
  obtain ⟨_, _, ⟨T52, L53, kc54, nc55⟩, -, X56, ⟨Lc57, hQ58, l59, y60, z61⟩, st62⟩ := Jvm.LawKit.callS X39 hx (y := mn2) hown (mvT hZ (tw18 hw)) (mvT hZ (tw19 hw)) (mvT hZ (tw20 hw)) (mvT hZ (tw21 hw)) (by decide) (backOf (W := 0) (rmF l Z a0 hw [] z h0 n0 Z0 fz) hZ (tw21 hw) (tw20 hw) (by decide) (by decide)) (g := (mkF m 10 #[vr a, vd x, ss, vi n, vd z, ss] [(.double z)])) rfl (by rw [hml]; rfl) (argsL := [(.double z)]) (rest := []) (lenOf pd_11 rfl) rfl (by show 2 * 0 + _ ≤ _; exact Nat.le_of_eq rfl) (hb hby d_prog_72_method_1_code_10) (fun _ _ => ⟨rfl, e47, (by decide : 0 + 0 ≤ _), (by decide : 0 + 0 ≤ _)⟩)
  dsimp only [Pt.U, Pt.locs, Pt.cells, Pt.slots] at X56 l59 y60 z61 st62 hQ58
  subst l59 y60 z61
  obtain ⟨rfl, N63, e64⟩ := hQ58
  have N66 := Fr.app N49 N63
  have k67 : own_G p e below E0 T52 (mkF m 13 #[vr a, vd x, ss, vi n, vd z, ss] [(.int (1 : Int32))]) := fun tQ kk => k51 tQ (st62 _ kk)
  clear k51 st62
  have k68 : own_G p e below E0 T52 (mkF m 33 #[vr a, vd x, ss, vi n, vd z, ss] [(.double x), (.ref a)]) := by
    intro tQ kk
    refine k67 tQ ?_
    refine XS.ifYes X56.here hx rfl (pc0 := 13) (pc' := 31) rfl (hb hby d_prog_72_method_1_code_13) rfl (own_if_neY (by decide)) (by decide) (by decide) ?_
    refine XS.aloadN X56.here hx rfl (hb hby d_prog_72_method_1_code_31) rfl rfl ?_
    refine XS.dloadN X56.here hx rfl (hb hby d_prog_72_method_1_code_32) rfl ?_
    exact kk
  clear k67
  obtain ⟨T69, h70, X71, e72, W73, st74⟩ := putF X56 hx hZ hown (host := "") (Or.inl (tw27 hw)) Via.refl e64 F0 E1 (Or.inr ⟨(tw28 hw), rfl, hnm⟩) (tw1 hw) (ty := .double) (by decide) rfl rfl (g := (mkF m 33 #[vr a, vd x, ss, vi n, vd z, ss] [(.double x), (.ref a)])) rfl rfl (hb hby d_prog_72_method_1_code_33)
  have N75 := Fr.snoc X71 N66 ge_a
  have k76 : own_G p e below E0 T69 (mkF m 36 #[vr a, vd x, ss, vi n, vd z, ss] []) := fun tQ kk => k68 tQ (st74 _ kk)
  clear k68 st74
  have F77 : xa7 Z h70 a := E1.wr W73
  clear E1
  have F78 : fd4 Z h70 a (.double x) := F0.same W73
  clear F0
  have F79 : fd5 Z h70 a (.int (0 : Int32)) := F1.other W73 (Or.inr (slot_ne (C := "com/example/capwright/capwright/premise/ConstantAmountChange") (Or.inr (tw30 hw)) (Or.inr (tw28 hw)) (by decide) (t := .int) (t' := .double) (by decide) (by decide)))
  clear F1
  have F80 : fd6 Z h70 a (.double (0 : UInt64)) := F2.other W73 (Or.inr (slot_ne (C := "com/example/capwright/capwright/premise/ConstantAmountChange") (Or.inr (tw32 hw)) (Or.inr (tw28 hw)) (by decide) (t := .double) (t' := .double) (by decide) (by decide)))
  clear F2
  have Z81 : n0 ≤ h70.size := by rw [W73.size]; exact Z0
  have K82 : Keep h0 h70 [a] := K0.wr W73 (Or.inl (List.mem_of_getElem? (i := 0) rfl))
  have k83 : own_G p e below E0 T69 (mkF m 38 #[vr a, vd x, ss, vi n, vd z, ss] [(.int n), (.ref a)]) := by
    intro tQ kk
    refine k76 tQ ?_
    refine XS.aloadN X71.here hx rfl (hb hby d_prog_72_method_1_code_36) rfl rfl ?_
    refine XS.iloadN X71.here hx rfl (hb hby d_prog_72_method_1_code_37) rfl ?_
    exact kk
  clear k76
  obtain ⟨T84, h85, X86, e87, W88, st89⟩ := putF X71 hx hZ hown (host := "") (Or.inl (tw29 hw)) Via.refl e72 F79 F77 (Or.inr ⟨(tw30 hw), rfl, hnm⟩) (tw1 hw) (ty := .int) (by decide) rfl rfl (g := (mkF m 38 #[vr a, vd x, ss, vi n, vd z, ss] [(.int n), (.ref a)])) rfl rfl (hb hby d_prog_72_method_1_code_38)
  have N90 := Fr.snoc X86 N75 ge_a
  have k91 : own_G p e below E0 T84 (mkF m 41 #[vr a, vd x, ss, vi n, vd z, ss] []) := fun tQ kk => k83 tQ (st89 _ kk)
  clear k83 st89
  have F92 : xa7 Z h85 a := F77.wr W88
  clear F77
  have F93 : fd4 Z h85 a (.double x) := F78.other W88 (Or.inr (slot_ne (C := "com/example/capwright/capwright/premise/ConstantAmountChange") (Or.inr (tw28 hw)) (Or.inr (tw30 hw)) (by decide) (t := .double) (t' := .int) (by decide) (by decide)))
  clear F78
  have F94 : fd5 Z h85 a (.int n) := F79.same W88
  clear F79
  have F95 : fd6 Z h85 a (.double (0 : UInt64)) := F80.other W88 (Or.inr (slot_ne (C := "com/example/capwright/capwright/premise/ConstantAmountChange") (Or.inr (tw32 hw)) (Or.inr (tw30 hw)) (by decide) (t := .double) (t' := .int) (by decide) (by decide)))
  clear F80
  have Z96 : n0 ≤ h85.size := by rw [W88.size]; exact Z81
  have K97 : Keep h0 h85 [a] := K82.wr W88 (Or.inl (List.mem_of_getElem? (i := 0) rfl))
  have k98 : own_G p e below E0 T84 (mkF m 44 #[vr a, vd x, ss, vi n, vd z, ss] [(.double z), (.ref a)]) := by
    intro tQ kk
    refine k91 tQ ?_
    refine XS.aloadN X86.here hx rfl (hb hby d_prog_72_method_1_code_41) rfl rfl ?_
    refine XS.dload X86.here hx rfl (hb hby d_prog_72_method_1_code_42) rfl ?_
    exact kk
  clear k91
  obtain ⟨T99, h100, X101, e102, W103, st104⟩ := putF X86 hx hZ hown (host := "") (Or.inl (tw31 hw)) Via.refl e87 F95 F92 (Or.inr ⟨(tw32 hw), rfl, hnm⟩) (tw1 hw) (ty := .double) (by decide) rfl rfl (g := (mkF m 44 #[vr a, vd x, ss, vi n, vd z, ss] [(.double z), (.ref a)])) rfl rfl (hb hby d_prog_72_method_1_code_44)
  have N105 := Fr.snoc X101 N90 ge_a
  have k106 : own_G p e below E0 T99 (mkF m 47 #[vr a, vd x, ss, vi n, vd z, ss] []) := fun tQ kk => k98 tQ (st104 _ kk)
  clear k98 st104
  have F107 : xa7 Z h100 a := F92.wr W103
  clear F92
  have F108 : fd4 Z h100 a (.double x) := F93.other W103 (Or.inr (slot_ne (C := "com/example/capwright/capwright/premise/ConstantAmountChange") (Or.inr (tw28 hw)) (Or.inr (tw32 hw)) (by decide) (t := .double) (t' := .double) (by decide) (by decide)))
  clear F93
  have F109 : fd5 Z h100 a (.int n) := F94.other W103 (Or.inr (slot_ne (C := "com/example/capwright/capwright/premise/ConstantAmountChange") (Or.inr (tw30 hw)) (Or.inr (tw32 hw)) (by decide) (t := .int) (t' := .double) (by decide) (by decide)))
  clear F94
  have F110 : fd6 Z h100 a (.double z) := F95.same W103
  clear F95
  have Z111 : n0 ≤ h100.size := by rw [W103.size]; exact Z96
  have K112 : Keep h0 h100 [a] := K97.wr W103 (Or.inl (List.mem_of_getElem? (i := 0) rfl))
  obtain ⟨fs, hr, hrun, hended, hW, hsame⟩ := X101.leave (v := none) (fun _ => rfl)
  have hrun0 := k106 _ (X101.returnOut hx Bd.returns (hb hby d_prog_72_method_1_code_47) hr)
  subst hE0
  refine ⟨_, _, hrun0, hrun, hended, _, _, rfl, ?_, ⟨_, rfl⟩, hW, hsame.mono (by decide) (by decide)⟩
  show QrmI Z a x n z h0 n0 _ T99.heap _
  rw [e102]
  exact ⟨rfl, N105, K112, F108, F109, F110⟩
def QrmV1 (Z : State) (a : Addr) (x : UInt64) (z : UInt64) (h0 : Heap) (n0 : Nat) (vQ : Option Value) (hQ : Heap) (LQ : List Loc) : Prop := ∃ (r : Addr), vQ = some (.ref r) ∧ Fr n0 LQ ∧ Keep h0 hQ [] ∧ (own_A Z hQ r .double [(.double (FP.dadd x (FP.dmul (FP.i2d (0 : Int32)) z)))])
theorem ef_rmV1 (m : MethodId) (a : Addr) (x : UInt64) (z : UInt64) : entryFrame m #[(.ref a), (.double x)] 5 = mkF m 0 #[vr a, vd x, ss, uu, uu] [] := by first | (simp [entryFrame, mkF, argsToLocals, Value.category]; done) | rfl
abbrev mn12 : MethodName := ⟨"com/example/capwright/capwright/premise/ConstantAmountChange", "incomes", "(D)[D"⟩
theorem d_prog_72_method_2_code_0 : decode prog_72_method_2_code 0 = .ok (.aload_n 0, 1) := by decide +kernel
theorem d_prog_72_method_2_code_1 : decode prog_72_method_2_code 1 = .ok (.getfield 34, 3) := by decide +kernel
theorem d_prog_72_method_2_code_4 : decode prog_72_method_2_code 4 = .ok (.newarray .double, 2) := by decide +kernel
def tw38 {Z : State} {a0 : Array Value} (hw : ∀ d ∈ tables_1, d.before a0 Z = true) := hw _ (List.mem_of_getElem? (i := 38) rfl)
theorem d_prog_72_method_2_code_6 : decode prog_72_method_2_code 6 = .ok (.astore_n 3, 1) := by decide +kernel
theorem d_prog_72_method_2_code_7 : decode prog_72_method_2_code 7 = .ok (.iconst 1, 1) := by decide +kernel
theorem d_prog_72_method_2_code_8 : decode prog_72_method_2_code 8 = .ok (.istore 4, 2) := by decide +kernel
theorem d_prog_72_method_2_code_10 : decode prog_72_method_2_code 10 = .ok (.iload 4, 2) := by decide +kernel
theorem d_prog_72_method_2_code_12 : decode prog_72_method_2_code 12 = .ok (.aload_n 0, 1) := by decide +kernel
theorem d_prog_72_method_2_code_13 : decode prog_72_method_2_code 13 = .ok (.getfield 34, 3) := by decide +kernel
theorem d_prog_72_method_2_code_16 : decode prog_72_method_2_code 16 = .ok (.if_icmp .gt 27, 3) := by decide +kernel
theorem d_prog_72_method_2_code_19 : decode prog_72_method_2_code 19 = .ok (.aload_n 3, 1) := by decide +kernel
theorem d_prog_72_method_2_code_20 : decode prog_72_method_2_code 20 = .ok (.iload 4, 2) := by decide +kernel
theorem d_prog_72_method_2_code_22 : decode prog_72_method_2_code 22 = .ok (.iconst 1, 1) := by decide +kernel
theorem d_prog_72_method_2_code_23 : decode prog_72_method_2_code 23 = .ok (.isub, 1) := by decide +kernel
theorem d_prog_72_method_2_code_24 : decode prog_72_method_2_code 24 = .ok (.dload_n 1, 1) := by decide +kernel
theorem d_prog_72_method_2_code_25 : decode prog_72_method_2_code 25 = .ok (.iload 4, 2) := by decide +kernel
theorem d_prog_72_method_2_code_27 : decode prog_72_method_2_code 27 = .ok (.iconst 1, 1) := by decide +kernel
theorem d_prog_72_method_2_code_28 : decode prog_72_method_2_code 28 = .ok (.isub, 1) := by decide +kernel
theorem d_prog_72_method_2_code_29 : decode prog_72_method_2_code 29 = .ok (.i2d, 1) := by decide +kernel
theorem d_prog_72_method_2_code_30 : decode prog_72_method_2_code 30 = .ok (.aload_n 0, 1) := by decide +kernel
theorem d_prog_72_method_2_code_31 : decode prog_72_method_2_code 31 = .ok (.getfield 38, 3) := by decide +kernel
theorem d_prog_72_method_2_code_34 : decode prog_72_method_2_code 34 = .ok (.dmul, 1) := by decide +kernel
theorem d_prog_72_method_2_code_35 : decode prog_72_method_2_code 35 = .ok (.dadd, 1) := by decide +kernel
theorem d_prog_72_method_2_code_36 : decode prog_72_method_2_code 36 = .ok (.dastore, 1) := by decide +kernel
theorem d_prog_72_method_2_code_37 : decode prog_72_method_2_code 37 = .ok (.iinc 4 1, 3) := by decide +kernel
theorem d_prog_72_method_2_code_40 : decode prog_72_method_2_code 40 = .ok (.goto (-30), 3) := by decide +kernel
theorem d_prog_72_method_2_code_43 : decode prog_72_method_2_code 43 = .ok (.aload_n 3, 1) := by decide +kernel
theorem d_prog_72_method_2_code_44 : decode prog_72_method_2_code 44 = .ok (.areturn, 1) := by decide +kernel
set_option maxRecDepth 65536 in
set_option maxHeartbeats 40000000 in
theorem rmV1 (l : Launch) (Z : State) (a0 : Array Value) (hw : ∀ d ∈ tables_1, d.before a0 Z = true) (ws : List Jvm.Cond) (a : Addr) (x : UInt64) (z : UInt64) (h0 : Heap) (n0 : Nat) (Z0 : n0 ≤ h0.size) (F1 : fd5 Z h0 a (.int (1 : Int32))) (F2 : fd6 Z h0 a (.double z)) (nn : ∀ k : Int32, 0 ≤ k.toInt → k.toInt ≤ 8 → NoNaN64 (FP.dmul (FP.i2d k) z) ∧ NoNaN64 (FP.dadd x (FP.dmul (FP.i2d k) z))) :
    MetFree l mn12 (head1 (Jvm.Cond.code mn12 prog_72_method_2_code 5 (some (.array .double)) :: ws) ({ frames := 0, cells := 1, slots := 1, locals := 0 } : Room)) (fun aA U => aA = #[(.ref a), (.double x)] ∧ Z.Warmed39 U.vm ∧ U.heap = h0) (fun _ _ _ _ _ => True) (fun _ U o U' => ∃ vR LR, o = .returned vR ∧ QrmV1 Z a x z h0 n0 vR U'.heap LR ∧ FrameEnd U o U' LR ({ frames := 0, cells := 1, slots := 1, locals := 0 } : Room).cells ({ frames := 0, cells := 1, slots := 1, locals := 0 } : Room).slots) := by
  refine MetFree.of_bodySF (plainFor_of_name pn_com_example_capwright_capwright_premise_ConstantAmountChange) hisR ?_
  intro p e s m args below meth c s₁ Bd hml0 hPre hKk
  obtain ⟨rfl, hZ, hh⟩ := hPre
  have hx := Bd.exec
  have hby := Bd.bytes
  have hml : c.maxLocals = 5 := hml0
  have hown : s.vm.findClass "com/example/capwright/capwright/premise/ConstantAmountChange" = some m.cls := findClass_of_methodNamed Bd.named
  have hnm := (name_of_methodNamed Bd.named Bd.method).1
  have X0 : Stand p l e ({ frames := 0, cells := 1, slots := 1, locals := 0 } : Room) s m #[(.ref a), (.double x)] below meth c s₁ [] 0 0 := Stand.of_body Bd
  have e0 : s₁.heap = h0 := by rw [← hh, Bd.state]; rfl
  have N0 := Fr.nil n0
  obtain ⟨E0, hE0⟩ : ∃ zE : State, zE = s₁.setTop (entryFrame m #[(.ref a), (.double x)] 5) := ⟨_, rfl⟩
  have k0 : own_G p e below E0 s₁ (mkF m 0 #[vr a, vd x, ss, uu, uu] []) := fun tz kz => hE0 ▸ castTop (ef_rmV1 m a x z) kz
  have K0 : Keep h0 h0 [] := Keep.refl _ _
  have k113 : own_G p e below E0 s₁ (mkF m 1 #[vr a, vd x, ss, uu, uu] [(.ref a)]) := by
    intro tQ kk
    refine k0 tQ ?_
    refine XS.aloadN X0.here hx rfl (hb hby d_prog_72_method_2_code_0) rfl rfl ?_
    exact kk
  clear k0
  obtain ⟨T114, X115, e116, st117⟩ := getF X0 hx hZ hown (host := "") (Or.inl (tw29 hw)) Via.refl e0 F1 (g := (mkF m 1 #[vr a, vd x, ss, uu, uu] [(.ref a)])) rfl rfl (hb hby d_prog_72_method_2_code_1)
  have k118 : own_G p e below E0 T114 (mkF m 4 #[vr a, vd x, ss, uu, uu] [(.int (1 : Int32))]) := fun tQ kk => k113 tQ (st117 _ kk)
  clear k113 st117
  obtain ⟨T119, h120, cA121, X122, e123, E124, A125, st126⟩ := newP (aty := .double) X115 hx hZ (tw38 hw) e116 (g := (mkF m 4 #[vr a, vd x, ss, uu, uu] [(.int (1 : Int32))])) rfl (hb hby d_prog_72_method_2_code_4) rfl (by decide) (cap := 1) (by decide) (by decide) (by decide) (by decide)
  obtain ⟨a127, g128⟩ : ∃ zA : Nat, zA = h0.size := ⟨_, rfl⟩
  rw [← g128] at A125 st126
  have n129 : a ≠ a127 := own_lt_ne F1.lt g128
  have n130 : a127 ≠ a := fun q => n129 q.symm
  have nw131 : h0.size ≤ a127 := own_ge_of K0.1 g128
  have ge132 : n0 ≤ a127 := own_ge_of Z0 g128
  have Z133 : n0 ≤ h120.size := Nat.le_trans Z0 E124.1
  have F134 : fd5 Z h120 a (.int (1 : Int32)) := F1.ext E124
  clear F1
  have F135 : fd6 Z h120 a (.double z) := F2.ext E124
  clear F2
  have K136 : Keep h0 h120 [] := K0.ext E124
  have F137 : own_A Z h120 a127 .double [(.double (0 : UInt64))] := own_A.new A125
  have k138 : own_G p e below E0 T119 (mkF m 6 #[vr a, vd x, ss, uu, uu] [(.ref a127)]) := fun tQ kk => k118 tQ (st126 _ kk)
  clear k118 st126
  have k139 : own_G p e below E0 T119 (mkF m 13 #[vr a, vd x, ss, vr a127, vi (1 : Int32)] [(.ref a), (.int (1 : Int32))]) := by
    intro tQ kk
    refine k138 tQ ?_
    refine XS.astoreN X122.here hx rfl (hb hby d_prog_72_method_2_code_6) rfl rfl (l' := #[vr a, vd x, ss, vr a127, uu]) rfl ?_
    refine XS.iconst X122.here hx rfl (hb hby d_prog_72_method_2_code_7) ?_
    refine XS.istore X122.here hx rfl (hb hby d_prog_72_method_2_code_8) rfl (l' := #[vr a, vd x, ss, vr a127, vi (1 : Int32)]) rfl ?_
    refine XS.iload X122.here hx rfl (hb hby d_prog_72_method_2_code_10) rfl ?_
    show Steps p.tables e below (T119.setTop (mkF m 12 #[vr a, vd x, ss, vr a127, vi (1 : Int32)] [(.int (1 : Int32))])) tQ
    refine XS.aloadN X122.here hx rfl (hb hby d_prog_72_method_2_code_12) rfl rfl ?_
    exact kk
  clear k138
  obtain ⟨T140, X141, e142, st143⟩ := getF X122 hx hZ hown (host := "") (Or.inl (tw29 hw)) Via.refl e123 F134 (g := (mkF m 13 #[vr a, vd x, ss, vr a127, vi (1 : Int32)] [(.ref a), (.int (1 : Int32))])) rfl rfl (hb hby d_prog_72_method_2_code_13)
  have k144 : own_G p e below E0 T140 (mkF m 16 #[vr a, vd x, ss, vr a127, vi (1 : Int32)] [(.int (1 : Int32)), (.int (1 : Int32))]) := fun tQ kk => k139 tQ (st143 _ kk)
  clear k139 st143
  have k145 : own_G p e below E0 T140 (mkF m 31 #[vr a, vd x, ss, vr a127, vi (1 : Int32)] [(.ref a), (.double (FP.i2d (0 : Int32))), (.double x), (.int (0 : Int32)), (.ref a127)]) := by
    intro tQ kk
    refine k144 tQ ?_
    refine XS.icmpNo X141.here hx rfl (hb hby d_prog_72_method_2_code_16) rfl (own_ic_gtN (by decide)) ?_
    refine XS.aloadN X141.here hx rfl (hb hby d_prog_72_method_2_code_19) rfl rfl ?_
    refine XS.iload X141.here hx rfl (hb hby d_prog_72_method_2_code_20) rfl ?_
    refine XS.iconst X141.here hx rfl (hb hby d_prog_72_method_2_code_22) ?_
    show Steps p.tables e below (T140.setTop (mkF m 23 #[vr a, vd x, ss, vr a127, vi (1 : Int32)] [(.int (1 : Int32)), (.int (1 : Int32)), (.ref a127)])) tQ
    refine XS.isub X141.here hx rfl (hb hby d_prog_72_method_2_code_23) rfl ?_
    refine XS.dloadN X141.here hx rfl (hb hby d_prog_72_method_2_code_24) rfl ?_
    refine XS.iload X141.here hx rfl (hb hby d_prog_72_method_2_code_25) rfl ?_
    refine XS.iconst X141.here hx rfl (hb hby d_prog_72_method_2_code_27) ?_
    show Steps p.tables e below (T140.setTop (mkF m 28 #[vr a, vd x, ss, vr a127, vi (1 : Int32)] [(.int (1 : Int32)), (.int (1 : Int32)), (.double x), (.int (0 : Int32)), (.ref a127)])) tQ
    refine XS.isub X141.here hx rfl (hb hby d_prog_72_method_2_code_28) rfl ?_
    refine XS.i2dS X141.here hx rfl (hb hby d_prog_72_method_2_code_29) rfl rfl ?_
    refine XS.aloadN X141.here hx rfl (hb hby d_prog_72_method_2_code_30) rfl rfl ?_
    exact kk
  clear k144
  obtain ⟨T146, X147, e148, st149⟩ := getF X141 hx hZ hown (host := "") (Or.inl (tw31 hw)) Via.refl e142 F135 (g := (mkF m 31 #[vr a, vd x, ss, vr a127, vi (1 : Int32)] [(.ref a), (.double (FP.i2d (0 : Int32))), (.double x), (.int (0 : Int32)), (.ref a127)])) rfl rfl (hb hby d_prog_72_method_2_code_31)
  have k150 : own_G p e below E0 T146 (mkF m 34 #[vr a, vd x, ss, vr a127, vi (1 : Int32)] [(.double z), (.double (FP.i2d (0 : Int32))), (.double x), (.int (0 : Int32)), (.ref a127)]) := fun tQ kk => k145 tQ (st149 _ kk)
  clear k145 st149
  have k151 : own_G p e below E0 T146 (mkF m 36 #[vr a, vd x, ss, vr a127, vi (1 : Int32)] [(.double (FP.dadd x (FP.dmul (FP.i2d (0 : Int32)) z))), (.int (0 : Int32)), (.ref a127)]) := by
    intro tQ kk
    refine k150 tQ ?_
    refine XS.dmulS X147.here hx rfl (hb hby d_prog_72_method_2_code_34) rfl (nn (0 : Int32) (by decide) (by decide)).1 rfl ?_
    refine XS.daddS X147.here hx rfl (hb hby d_prog_72_method_2_code_35) rfl (nn (0 : Int32) (by decide) (by decide)).2 rfl ?_
    exact kk
  clear k150
  obtain ⟨T152, h153, X154, e155, W156, F157, st158⟩ := own_A.dst X147 hx hZ e148 F137 (j := (0 : Int32)) (by decide) rfl (g := (mkF m 36 #[vr a, vd x, ss, vr a127, vi (1 : Int32)] [(.double (FP.dadd x (FP.dmul (FP.i2d (0 : Int32)) z))), (.int (0 : Int32)), (.ref a127)])) rfl rfl (hb hby d_prog_72_method_2_code_36)
  have N159 := Fr.snoc X154 N0 ge132
  have k160 : own_G p e below E0 T152 (mkF m 37 #[vr a, vd x, ss, vr a127, vi (1 : Int32)] []) := fun tQ kk => k151 tQ (st158 _ kk)
  clear k151 st158
  have F161 : fd5 Z h153 a (.int (1 : Int32)) := F134.other W156 (Or.inl n129)
  clear F134
  have F162 : fd6 Z h153 a (.double z) := F135.other W156 (Or.inl n129)
  clear F135
  have Z163 : n0 ≤ h153.size := by rw [W156.size]; exact Z133
  have K164 : Keep h0 h153 [] := K136.wr W156 (Or.inr nw131)
  have F165 : own_A Z h153 a127 .double [(.double (FP.dadd x (FP.dmul (FP.i2d (0 : Int32)) z)))] := F157
  have k166 : own_G p e below E0 T152 (mkF m 13 #[vr a, vd x, ss, vr a127, vi (2 : Int32)] [(.ref a), (.int (2 : Int32))]) := by
    intro tQ kk
    refine k160 tQ ?_
    refine XS.iinc X154.here hx rfl (hb hby d_prog_72_method_2_code_37) rfl (l' := #[vr a, vd x, ss, vr a127, vi (2 : Int32)]) rfl ?_
    refine XS.goto X154.here hx rfl (pc0 := 40) (pc' := 10) rfl (hb hby d_prog_72_method_2_code_40) (by decide) (by decide) ?_
    refine XS.iload X154.here hx rfl (hb hby d_prog_72_method_2_code_10) rfl ?_
    refine XS.aloadN X154.here hx rfl (hb hby d_prog_72_method_2_code_12) rfl rfl ?_
    exact kk
  clear k160
  obtain ⟨T167, X168, e169, st170⟩ := getF X154 hx hZ hown (host := "") (Or.inl (tw29 hw)) Via.refl e155 F161 (g := (mkF m 13 #[vr a, vd x, ss, vr a127, vi (2 : Int32)] [(.ref a), (.int (2 : Int32))])) rfl rfl (hb hby d_prog_72_method_2_code_13)
  have k171 : own_G p e below E0 T167 (mkF m 16 #[vr a, vd x, ss, vr a127, vi (2 : Int32)] [(.int (1 : Int32)), (.int (2 : Int32))]) := fun tQ kk => k166 tQ (st170 _ kk)
  clear k166 st170
  have k172 : own_G p e below E0 T167 (mkF m 44 #[vr a, vd x, ss, vr a127, vi (2 : Int32)] [(.ref a127)]) := by
    intro tQ kk
    refine k171 tQ ?_
    refine XS.icmpYes X168.here hx rfl (pc0 := 16) (pc' := 43) rfl (hb hby d_prog_72_method_2_code_16) rfl (own_ic_gtY (by decide)) (by decide) (by decide) ?_
    refine XS.aloadN X168.here hx rfl (hb hby d_prog_72_method_2_code_43) rfl rfl ?_
    exact kk
  clear k171
  obtain ⟨fs, hr, hrun, hended, hW, hsame⟩ := X168.leave (v := some (.ref a127)) (fun h => by rw [Bd.returns] at h; cases h)
  have hrun0 := k172 _ (retOut X168 hx Bd.returns (t := (.array .double)) rfl (Or.inr (Or.inr (Or.inr (Or.inr ⟨rfl, rfl, rfl⟩)))) (hb hby d_prog_72_method_2_code_44) hr)
  subst hE0
  refine ⟨_, _, hrun0, hrun, hended, _, _, rfl, ?_, ⟨_, rfl⟩, hW, hsame.mono (by decide) (by decide)⟩
  show QrmV1 Z a x z h0 n0 _ T167.heap _
  rw [e169]
  exact ⟨a127, rfl, N159, K164, F165⟩
def QrmV2 (Z : State) (a : Addr) (x : UInt64) (z : UInt64) (h0 : Heap) (n0 : Nat) (vQ : Option Value) (hQ : Heap) (LQ : List Loc) : Prop := ∃ (r : Addr), vQ = some (.ref r) ∧ Fr n0 LQ ∧ Keep h0 hQ [] ∧ (own_A Z hQ r .double [(.double (FP.dadd x (FP.dmul (FP.i2d (0 : Int32)) z))), (.double (FP.dadd x (FP.dmul (FP.i2d (1 : Int32)) z)))])
theorem ef_rmV2 (m : MethodId) (a : Addr) (x : UInt64) (z : UInt64) : entryFrame m #[(.ref a), (.double x)] 5 = mkF m 0 #[vr a, vd x, ss, uu, uu] [] := by first | (simp [entryFrame, mkF, argsToLocals, Value.category]; done) | rfl
set_option maxRecDepth 65536 in
set_option maxHeartbeats 40000000 in
theorem rmV2 (l : Launch) (Z : State) (a0 : Array Value) (hw : ∀ d ∈ tables_1, d.before a0 Z = true) (ws : List Jvm.Cond) (a : Addr) (x : UInt64) (z : UInt64) (h0 : Heap) (n0 : Nat) (Z0 : n0 ≤ h0.size) (F1 : fd5 Z h0 a (.int (2 : Int32))) (F2 : fd6 Z h0 a (.double z)) (nn : ∀ k : Int32, 0 ≤ k.toInt → k.toInt ≤ 8 → NoNaN64 (FP.dmul (FP.i2d k) z) ∧ NoNaN64 (FP.dadd x (FP.dmul (FP.i2d k) z))) :
    MetFree l mn12 (head1 (Jvm.Cond.code mn12 prog_72_method_2_code 5 (some (.array .double)) :: ws) ({ frames := 0, cells := 1, slots := 2, locals := 0 } : Room)) (fun aA U => aA = #[(.ref a), (.double x)] ∧ Z.Warmed39 U.vm ∧ U.heap = h0) (fun _ _ _ _ _ => True) (fun _ U o U' => ∃ vR LR, o = .returned vR ∧ QrmV2 Z a x z h0 n0 vR U'.heap LR ∧ FrameEnd U o U' LR ({ frames := 0, cells := 1, slots := 2, locals := 0 } : Room).cells ({ frames := 0, cells := 1, slots := 2, locals := 0 } : Room).slots) := by
  refine MetFree.of_bodySF (plainFor_of_name pn_com_example_capwright_capwright_premise_ConstantAmountChange) hisR ?_
  intro p e s m args below meth c s₁ Bd hml0 hPre hKk
  obtain ⟨rfl, hZ, hh⟩ := hPre
  have hx := Bd.exec
  have hby := Bd.bytes
  have hml : c.maxLocals = 5 := hml0
  have hown : s.vm.findClass "com/example/capwright/capwright/premise/ConstantAmountChange" = some m.cls := findClass_of_methodNamed Bd.named
  have hnm := (name_of_methodNamed Bd.named Bd.method).1
  have X0 : Stand p l e ({ frames := 0, cells := 1, slots := 2, locals := 0 } : Room) s m #[(.ref a), (.double x)] below meth c s₁ [] 0 0 := Stand.of_body Bd
  have e0 : s₁.heap = h0 := by rw [← hh, Bd.state]; rfl
  have N0 := Fr.nil n0
  obtain ⟨E0, hE0⟩ : ∃ zE : State, zE = s₁.setTop (entryFrame m #[(.ref a), (.double x)] 5) := ⟨_, rfl⟩
  have k0 : own_G p e below E0 s₁ (mkF m 0 #[vr a, vd x, ss, uu, uu] []) := fun tz kz => hE0 ▸ castTop (ef_rmV2 m a x z) kz
  have K0 : Keep h0 h0 [] := Keep.refl _ _
  have k173 : own_G p e below E0 s₁ (mkF m 1 #[vr a, vd x, ss, uu, uu] [(.ref a)]) := by
    intro tQ kk
    refine k0 tQ ?_
    refine XS.aloadN X0.here hx rfl (hb hby d_prog_72_method_2_code_0) rfl rfl ?_
    exact kk
  clear k0
  obtain ⟨T174, X175, e176, st177⟩ := getF X0 hx hZ hown (host := "") (Or.inl (tw29 hw)) Via.refl e0 F1 (g := (mkF m 1 #[vr a, vd x, ss, uu, uu] [(.ref a)])) rfl rfl (hb hby d_prog_72_method_2_code_1)
  have k178 : own_G p e below E0 T174 (mkF m 4 #[vr a, vd x, ss, uu, uu] [(.int (2 : Int32))]) := fun tQ kk => k173 tQ (st177 _ kk)
  clear k173 st177
  obtain ⟨T179, h180, cA181, X182, e183, E184, A185, st186⟩ := newP (aty := .double) X175 hx hZ (tw38 hw) e176 (g := (mkF m 4 #[vr a, vd x, ss, uu, uu] [(.int (2 : Int32))])) rfl (hb hby d_prog_72_method_2_code_4) rfl (by decide) (cap := 2) (by decide) (by decide) (by decide) (by decide)
  obtain ⟨a187, g188⟩ : ∃ zA : Nat, zA = h0.size := ⟨_, rfl⟩
  rw [← g188] at A185 st186
  have n189 : a ≠ a187 := own_lt_ne F1.lt g188
  have n190 : a187 ≠ a := fun q => n189 q.symm
  have nw191 : h0.size ≤ a187 := own_ge_of K0.1 g188
  have ge192 : n0 ≤ a187 := own_ge_of Z0 g188
  have Z193 : n0 ≤ h180.size := Nat.le_trans Z0 E184.1
  have F194 : fd5 Z h180 a (.int (2 : Int32)) := F1.ext E184
  clear F1
  have F195 : fd6 Z h180 a (.double z) := F2.ext E184
  clear F2
  have K196 : Keep h0 h180 [] := K0.ext E184
  have F197 : own_A Z h180 a187 .double [(.double (0 : UInt64)), (.double (0 : UInt64))] := own_A.new A185
  have k198 : own_G p e below E0 T179 (mkF m 6 #[vr a, vd x, ss, uu, uu] [(.ref a187)]) := fun tQ kk => k178 tQ (st186 _ kk)
  clear k178 st186
  have k199 : own_G p e below E0 T179 (mkF m 13 #[vr a, vd x, ss, vr a187, vi (1 : Int32)] [(.ref a), (.int (1 : Int32))]) := by
    intro tQ kk
    refine k198 tQ ?_
    refine XS.astoreN X182.here hx rfl (hb hby d_prog_72_method_2_code_6) rfl rfl (l' := #[vr a, vd x, ss, vr a187, uu]) rfl ?_
    refine XS.iconst X182.here hx rfl (hb hby d_prog_72_method_2_code_7) ?_
    refine XS.istore X182.here hx rfl (hb hby d_prog_72_method_2_code_8) rfl (l' := #[vr a, vd x, ss, vr a187, vi (1 : Int32)]) rfl ?_
    refine XS.iload X182.here hx rfl (hb hby d_prog_72_method_2_code_10) rfl ?_
    show Steps p.tables e below (T179.setTop (mkF m 12 #[vr a, vd x, ss, vr a187, vi (1 : Int32)] [(.int (1 : Int32))])) tQ
    refine XS.aloadN X182.here hx rfl (hb hby d_prog_72_method_2_code_12) rfl rfl ?_
    exact kk
  clear k198
  obtain ⟨T200, X201, e202, st203⟩ := getF X182 hx hZ hown (host := "") (Or.inl (tw29 hw)) Via.refl e183 F194 (g := (mkF m 13 #[vr a, vd x, ss, vr a187, vi (1 : Int32)] [(.ref a), (.int (1 : Int32))])) rfl rfl (hb hby d_prog_72_method_2_code_13)
  have k204 : own_G p e below E0 T200 (mkF m 16 #[vr a, vd x, ss, vr a187, vi (1 : Int32)] [(.int (2 : Int32)), (.int (1 : Int32))]) := fun tQ kk => k199 tQ (st203 _ kk)
  clear k199 st203
  have k205 : own_G p e below E0 T200 (mkF m 31 #[vr a, vd x, ss, vr a187, vi (1 : Int32)] [(.ref a), (.double (FP.i2d (0 : Int32))), (.double x), (.int (0 : Int32)), (.ref a187)]) := by
    intro tQ kk
    refine k204 tQ ?_
    refine XS.icmpNo X201.here hx rfl (hb hby d_prog_72_method_2_code_16) rfl (own_ic_gtN (by decide)) ?_
    refine XS.aloadN X201.here hx rfl (hb hby d_prog_72_method_2_code_19) rfl rfl ?_
    refine XS.iload X201.here hx rfl (hb hby d_prog_72_method_2_code_20) rfl ?_
    refine XS.iconst X201.here hx rfl (hb hby d_prog_72_method_2_code_22) ?_
    show Steps p.tables e below (T200.setTop (mkF m 23 #[vr a, vd x, ss, vr a187, vi (1 : Int32)] [(.int (1 : Int32)), (.int (1 : Int32)), (.ref a187)])) tQ
    refine XS.isub X201.here hx rfl (hb hby d_prog_72_method_2_code_23) rfl ?_
    refine XS.dloadN X201.here hx rfl (hb hby d_prog_72_method_2_code_24) rfl ?_
    refine XS.iload X201.here hx rfl (hb hby d_prog_72_method_2_code_25) rfl ?_
    refine XS.iconst X201.here hx rfl (hb hby d_prog_72_method_2_code_27) ?_
    show Steps p.tables e below (T200.setTop (mkF m 28 #[vr a, vd x, ss, vr a187, vi (1 : Int32)] [(.int (1 : Int32)), (.int (1 : Int32)), (.double x), (.int (0 : Int32)), (.ref a187)])) tQ
    refine XS.isub X201.here hx rfl (hb hby d_prog_72_method_2_code_28) rfl ?_
    refine XS.i2dS X201.here hx rfl (hb hby d_prog_72_method_2_code_29) rfl rfl ?_
    refine XS.aloadN X201.here hx rfl (hb hby d_prog_72_method_2_code_30) rfl rfl ?_
    exact kk
  clear k204
  obtain ⟨T206, X207, e208, st209⟩ := getF X201 hx hZ hown (host := "") (Or.inl (tw31 hw)) Via.refl e202 F195 (g := (mkF m 31 #[vr a, vd x, ss, vr a187, vi (1 : Int32)] [(.ref a), (.double (FP.i2d (0 : Int32))), (.double x), (.int (0 : Int32)), (.ref a187)])) rfl rfl (hb hby d_prog_72_method_2_code_31)
  have k210 : own_G p e below E0 T206 (mkF m 34 #[vr a, vd x, ss, vr a187, vi (1 : Int32)] [(.double z), (.double (FP.i2d (0 : Int32))), (.double x), (.int (0 : Int32)), (.ref a187)]) := fun tQ kk => k205 tQ (st209 _ kk)
  clear k205 st209
  have k211 : own_G p e below E0 T206 (mkF m 36 #[vr a, vd x, ss, vr a187, vi (1 : Int32)] [(.double (FP.dadd x (FP.dmul (FP.i2d (0 : Int32)) z))), (.int (0 : Int32)), (.ref a187)]) := by
    intro tQ kk
    refine k210 tQ ?_
    refine XS.dmulS X207.here hx rfl (hb hby d_prog_72_method_2_code_34) rfl (nn (0 : Int32) (by decide) (by decide)).1 rfl ?_
    refine XS.daddS X207.here hx rfl (hb hby d_prog_72_method_2_code_35) rfl (nn (0 : Int32) (by decide) (by decide)).2 rfl ?_
    exact kk
  clear k210
  obtain ⟨T212, h213, X214, e215, W216, F217, st218⟩ := own_A.dst X207 hx hZ e208 F197 (j := (0 : Int32)) (by decide) rfl (g := (mkF m 36 #[vr a, vd x, ss, vr a187, vi (1 : Int32)] [(.double (FP.dadd x (FP.dmul (FP.i2d (0 : Int32)) z))), (.int (0 : Int32)), (.ref a187)])) rfl rfl (hb hby d_prog_72_method_2_code_36)
  have N219 := Fr.snoc X214 N0 ge192
  have k220 : own_G p e below E0 T212 (mkF m 37 #[vr a, vd x, ss, vr a187, vi (1 : Int32)] []) := fun tQ kk => k211 tQ (st218 _ kk)
  clear k211 st218
  have F221 : fd5 Z h213 a (.int (2 : Int32)) := F194.other W216 (Or.inl n189)
  clear F194
  have F222 : fd6 Z h213 a (.double z) := F195.other W216 (Or.inl n189)
  clear F195
  have Z223 : n0 ≤ h213.size := by rw [W216.size]; exact Z193
  have K224 : Keep h0 h213 [] := K196.wr W216 (Or.inr nw191)
  have F225 : own_A Z h213 a187 .double [(.double (FP.dadd x (FP.dmul (FP.i2d (0 : Int32)) z))), (.double (0 : UInt64))] := F217
  have k226 : own_G p e below E0 T212 (mkF m 13 #[vr a, vd x, ss, vr a187, vi (2 : Int32)] [(.ref a), (.int (2 : Int32))]) := by
    intro tQ kk
    refine k220 tQ ?_
    refine XS.iinc X214.here hx rfl (hb hby d_prog_72_method_2_code_37) rfl (l' := #[vr a, vd x, ss, vr a187, vi (2 : Int32)]) rfl ?_
    refine XS.goto X214.here hx rfl (pc0 := 40) (pc' := 10) rfl (hb hby d_prog_72_method_2_code_40) (by decide) (by decide) ?_
    refine XS.iload X214.here hx rfl (hb hby d_prog_72_method_2_code_10) rfl ?_
    refine XS.aloadN X214.here hx rfl (hb hby d_prog_72_method_2_code_12) rfl rfl ?_
    exact kk
  clear k220
  obtain ⟨T227, X228, e229, st230⟩ := getF X214 hx hZ hown (host := "") (Or.inl (tw29 hw)) Via.refl e215 F221 (g := (mkF m 13 #[vr a, vd x, ss, vr a187, vi (2 : Int32)] [(.ref a), (.int (2 : Int32))])) rfl rfl (hb hby d_prog_72_method_2_code_13)
  have k231 : own_G p e below E0 T227 (mkF m 16 #[vr a, vd x, ss, vr a187, vi (2 : Int32)] [(.int (2 : Int32)), (.int (2 : Int32))]) := fun tQ kk => k226 tQ (st230 _ kk)
  clear k226 st230
  have k232 : own_G p e below E0 T227 (mkF m 31 #[vr a, vd x, ss, vr a187, vi (2 : Int32)] [(.ref a), (.double (FP.i2d (1 : Int32))), (.double x), (.int (1 : Int32)), (.ref a187)]) := by
    intro tQ kk
    refine k231 tQ ?_
    refine XS.icmpNo X228.here hx rfl (hb hby d_prog_72_method_2_code_16) rfl (own_ic_gtN (by decide)) ?_
    refine XS.aloadN X228.here hx rfl (hb hby d_prog_72_method_2_code_19) rfl rfl ?_
    refine XS.iload X228.here hx rfl (hb hby d_prog_72_method_2_code_20) rfl ?_
    refine XS.iconst X228.here hx rfl (hb hby d_prog_72_method_2_code_22) ?_
    show Steps p.tables e below (T227.setTop (mkF m 23 #[vr a, vd x, ss, vr a187, vi (2 : Int32)] [(.int (1 : Int32)), (.int (2 : Int32)), (.ref a187)])) tQ
    refine XS.isub X228.here hx rfl (hb hby d_prog_72_method_2_code_23) rfl ?_
    refine XS.dloadN X228.here hx rfl (hb hby d_prog_72_method_2_code_24) rfl ?_
    refine XS.iload X228.here hx rfl (hb hby d_prog_72_method_2_code_25) rfl ?_
    refine XS.iconst X228.here hx rfl (hb hby d_prog_72_method_2_code_27) ?_
    show Steps p.tables e below (T227.setTop (mkF m 28 #[vr a, vd x, ss, vr a187, vi (2 : Int32)] [(.int (1 : Int32)), (.int (2 : Int32)), (.double x), (.int (1 : Int32)), (.ref a187)])) tQ
    refine XS.isub X228.here hx rfl (hb hby d_prog_72_method_2_code_28) rfl ?_
    refine XS.i2dS X228.here hx rfl (hb hby d_prog_72_method_2_code_29) rfl rfl ?_
    refine XS.aloadN X228.here hx rfl (hb hby d_prog_72_method_2_code_30) rfl rfl ?_
    exact kk
  clear k231
  obtain ⟨T233, X234, e235, st236⟩ := getF X228 hx hZ hown (host := "") (Or.inl (tw31 hw)) Via.refl e229 F222 (g := (mkF m 31 #[vr a, vd x, ss, vr a187, vi (2 : Int32)] [(.ref a), (.double (FP.i2d (1 : Int32))), (.double x), (.int (1 : Int32)), (.ref a187)])) rfl rfl (hb hby d_prog_72_method_2_code_31)
  have k237 : own_G p e below E0 T233 (mkF m 34 #[vr a, vd x, ss, vr a187, vi (2 : Int32)] [(.double z), (.double (FP.i2d (1 : Int32))), (.double x), (.int (1 : Int32)), (.ref a187)]) := fun tQ kk => k232 tQ (st236 _ kk)
  clear k232 st236
  have k238 : own_G p e below E0 T233 (mkF m 36 #[vr a, vd x, ss, vr a187, vi (2 : Int32)] [(.double (FP.dadd x (FP.dmul (FP.i2d (1 : Int32)) z))), (.int (1 : Int32)), (.ref a187)]) := by
    intro tQ kk
    refine k237 tQ ?_
    refine XS.dmulS X234.here hx rfl (hb hby d_prog_72_method_2_code_34) rfl (nn (1 : Int32) (by decide) (by decide)).1 rfl ?_
    refine XS.daddS X234.here hx rfl (hb hby d_prog_72_method_2_code_35) rfl (nn (1 : Int32) (by decide) (by decide)).2 rfl ?_
    exact kk
  clear k237
  obtain ⟨T239, h240, X241, e242, W243, F244, st245⟩ := own_A.dst X234 hx hZ e235 F225 (j := (1 : Int32)) (by decide) rfl (g := (mkF m 36 #[vr a, vd x, ss, vr a187, vi (2 : Int32)] [(.double (FP.dadd x (FP.dmul (FP.i2d (1 : Int32)) z))), (.int (1 : Int32)), (.ref a187)])) rfl rfl (hb hby d_prog_72_method_2_code_36)
  have N246 := Fr.snoc X241 N219 ge192
  have k247 : own_G p e below E0 T239 (mkF m 37 #[vr a, vd x, ss, vr a187, vi (2 : Int32)] []) := fun tQ kk => k238 tQ (st245 _ kk)
  clear k238 st245
  have F248 : fd5 Z h240 a (.int (2 : Int32)) := F221.other W243 (Or.inl n189)
  clear F221
  have F249 : fd6 Z h240 a (.double z) := F222.other W243 (Or.inl n189)
  clear F222
  have Z250 : n0 ≤ h240.size := by rw [W243.size]; exact Z223
  have K251 : Keep h0 h240 [] := K224.wr W243 (Or.inr nw191)
  have F252 : own_A Z h240 a187 .double [(.double (FP.dadd x (FP.dmul (FP.i2d (0 : Int32)) z))), (.double (FP.dadd x (FP.dmul (FP.i2d (1 : Int32)) z)))] := F244
  have k253 : own_G p e below E0 T239 (mkF m 13 #[vr a, vd x, ss, vr a187, vi (3 : Int32)] [(.ref a), (.int (3 : Int32))]) := by
    intro tQ kk
    refine k247 tQ ?_
    refine XS.iinc X241.here hx rfl (hb hby d_prog_72_method_2_code_37) rfl (l' := #[vr a, vd x, ss, vr a187, vi (3 : Int32)]) rfl ?_
    refine XS.goto X241.here hx rfl (pc0 := 40) (pc' := 10) rfl (hb hby d_prog_72_method_2_code_40) (by decide) (by decide) ?_
    refine XS.iload X241.here hx rfl (hb hby d_prog_72_method_2_code_10) rfl ?_
    refine XS.aloadN X241.here hx rfl (hb hby d_prog_72_method_2_code_12) rfl rfl ?_
    exact kk
  clear k247
  obtain ⟨T254, X255, e256, st257⟩ := getF X241 hx hZ hown (host := "") (Or.inl (tw29 hw)) Via.refl e242 F248 (g := (mkF m 13 #[vr a, vd x, ss, vr a187, vi (3 : Int32)] [(.ref a), (.int (3 : Int32))])) rfl rfl (hb hby d_prog_72_method_2_code_13)
  have k258 : own_G p e below E0 T254 (mkF m 16 #[vr a, vd x, ss, vr a187, vi (3 : Int32)] [(.int (2 : Int32)), (.int (3 : Int32))]) := fun tQ kk => k253 tQ (st257 _ kk)
  clear k253 st257
  have k259 : own_G p e below E0 T254 (mkF m 44 #[vr a, vd x, ss, vr a187, vi (3 : Int32)] [(.ref a187)]) := by
    intro tQ kk
    refine k258 tQ ?_
    refine XS.icmpYes X255.here hx rfl (pc0 := 16) (pc' := 43) rfl (hb hby d_prog_72_method_2_code_16) rfl (own_ic_gtY (by decide)) (by decide) (by decide) ?_
    refine XS.aloadN X255.here hx rfl (hb hby d_prog_72_method_2_code_43) rfl rfl ?_
    exact kk
  clear k258
  obtain ⟨fs, hr, hrun, hended, hW, hsame⟩ := X255.leave (v := some (.ref a187)) (fun h => by rw [Bd.returns] at h; cases h)
  have hrun0 := k259 _ (retOut X255 hx Bd.returns (t := (.array .double)) rfl (Or.inr (Or.inr (Or.inr (Or.inr ⟨rfl, rfl, rfl⟩)))) (hb hby d_prog_72_method_2_code_44) hr)
  subst hE0
  refine ⟨_, _, hrun0, hrun, hended, _, _, rfl, ?_, ⟨_, rfl⟩, hW, hsame.mono (by decide) (by decide)⟩
  show QrmV2 Z a x z h0 n0 _ T254.heap _
  rw [e256]
  exact ⟨a187, rfl, N246, K251, F252⟩
def QrmV3 (Z : State) (a : Addr) (x : UInt64) (z : UInt64) (h0 : Heap) (n0 : Nat) (vQ : Option Value) (hQ : Heap) (LQ : List Loc) : Prop := ∃ (r : Addr), vQ = some (.ref r) ∧ Fr n0 LQ ∧ Keep h0 hQ [] ∧ (own_A Z hQ r .double [(.double (FP.dadd x (FP.dmul (FP.i2d (0 : Int32)) z))), (.double (FP.dadd x (FP.dmul (FP.i2d (1 : Int32)) z))), (.double (FP.dadd x (FP.dmul (FP.i2d (2 : Int32)) z)))])
theorem ef_rmV3 (m : MethodId) (a : Addr) (x : UInt64) (z : UInt64) : entryFrame m #[(.ref a), (.double x)] 5 = mkF m 0 #[vr a, vd x, ss, uu, uu] [] := by first | (simp [entryFrame, mkF, argsToLocals, Value.category]; done) | rfl
set_option maxRecDepth 65536 in
set_option maxHeartbeats 40000000 in
theorem rmV3 (l : Launch) (Z : State) (a0 : Array Value) (hw : ∀ d ∈ tables_1, d.before a0 Z = true) (ws : List Jvm.Cond) (a : Addr) (x : UInt64) (z : UInt64) (h0 : Heap) (n0 : Nat) (Z0 : n0 ≤ h0.size) (F1 : fd5 Z h0 a (.int (3 : Int32))) (F2 : fd6 Z h0 a (.double z)) (nn : ∀ k : Int32, 0 ≤ k.toInt → k.toInt ≤ 8 → NoNaN64 (FP.dmul (FP.i2d k) z) ∧ NoNaN64 (FP.dadd x (FP.dmul (FP.i2d k) z))) :
    MetFree l mn12 (head1 (Jvm.Cond.code mn12 prog_72_method_2_code 5 (some (.array .double)) :: ws) ({ frames := 0, cells := 1, slots := 3, locals := 0 } : Room)) (fun aA U => aA = #[(.ref a), (.double x)] ∧ Z.Warmed39 U.vm ∧ U.heap = h0) (fun _ _ _ _ _ => True) (fun _ U o U' => ∃ vR LR, o = .returned vR ∧ QrmV3 Z a x z h0 n0 vR U'.heap LR ∧ FrameEnd U o U' LR ({ frames := 0, cells := 1, slots := 3, locals := 0 } : Room).cells ({ frames := 0, cells := 1, slots := 3, locals := 0 } : Room).slots) := by
  refine MetFree.of_bodySF (plainFor_of_name pn_com_example_capwright_capwright_premise_ConstantAmountChange) hisR ?_
  intro p e s m args below meth c s₁ Bd hml0 hPre hKk
  obtain ⟨rfl, hZ, hh⟩ := hPre
  have hx := Bd.exec
  have hby := Bd.bytes
  have hml : c.maxLocals = 5 := hml0
  have hown : s.vm.findClass "com/example/capwright/capwright/premise/ConstantAmountChange" = some m.cls := findClass_of_methodNamed Bd.named
  have hnm := (name_of_methodNamed Bd.named Bd.method).1
  have X0 : Stand p l e ({ frames := 0, cells := 1, slots := 3, locals := 0 } : Room) s m #[(.ref a), (.double x)] below meth c s₁ [] 0 0 := Stand.of_body Bd
  have e0 : s₁.heap = h0 := by rw [← hh, Bd.state]; rfl
  have N0 := Fr.nil n0
  obtain ⟨E0, hE0⟩ : ∃ zE : State, zE = s₁.setTop (entryFrame m #[(.ref a), (.double x)] 5) := ⟨_, rfl⟩
  have k0 : own_G p e below E0 s₁ (mkF m 0 #[vr a, vd x, ss, uu, uu] []) := fun tz kz => hE0 ▸ castTop (ef_rmV3 m a x z) kz
  have K0 : Keep h0 h0 [] := Keep.refl _ _
  have k260 : own_G p e below E0 s₁ (mkF m 1 #[vr a, vd x, ss, uu, uu] [(.ref a)]) := by
    intro tQ kk
    refine k0 tQ ?_
    refine XS.aloadN X0.here hx rfl (hb hby d_prog_72_method_2_code_0) rfl rfl ?_
    exact kk
  clear k0
  obtain ⟨T261, X262, e263, st264⟩ := getF X0 hx hZ hown (host := "") (Or.inl (tw29 hw)) Via.refl e0 F1 (g := (mkF m 1 #[vr a, vd x, ss, uu, uu] [(.ref a)])) rfl rfl (hb hby d_prog_72_method_2_code_1)
  have k265 : own_G p e below E0 T261 (mkF m 4 #[vr a, vd x, ss, uu, uu] [(.int (3 : Int32))]) := fun tQ kk => k260 tQ (st264 _ kk)
  clear k260 st264
  obtain ⟨T266, h267, cA268, X269, e270, E271, A272, st273⟩ := newP (aty := .double) X262 hx hZ (tw38 hw) e263 (g := (mkF m 4 #[vr a, vd x, ss, uu, uu] [(.int (3 : Int32))])) rfl (hb hby d_prog_72_method_2_code_4) rfl (by decide) (cap := 3) (by decide) (by decide) (by decide) (by decide)
  obtain ⟨a274, g275⟩ : ∃ zA : Nat, zA = h0.size := ⟨_, rfl⟩
  rw [← g275] at A272 st273
  have n276 : a ≠ a274 := own_lt_ne F1.lt g275
  have n277 : a274 ≠ a := fun q => n276 q.symm
  have nw278 : h0.size ≤ a274 := own_ge_of K0.1 g275
  have ge279 : n0 ≤ a274 := own_ge_of Z0 g275
  have Z280 : n0 ≤ h267.size := Nat.le_trans Z0 E271.1
  have F281 : fd5 Z h267 a (.int (3 : Int32)) := F1.ext E271
  clear F1
  have F282 : fd6 Z h267 a (.double z) := F2.ext E271
  clear F2
  have K283 : Keep h0 h267 [] := K0.ext E271
  have F284 : own_A Z h267 a274 .double [(.double (0 : UInt64)), (.double (0 : UInt64)), (.double (0 : UInt64))] := own_A.new A272
  have k285 : own_G p e below E0 T266 (mkF m 6 #[vr a, vd x, ss, uu, uu] [(.ref a274)]) := fun tQ kk => k265 tQ (st273 _ kk)
  clear k265 st273
  have k286 : own_G p e below E0 T266 (mkF m 13 #[vr a, vd x, ss, vr a274, vi (1 : Int32)] [(.ref a), (.int (1 : Int32))]) := by
    intro tQ kk
    refine k285 tQ ?_
    refine XS.astoreN X269.here hx rfl (hb hby d_prog_72_method_2_code_6) rfl rfl (l' := #[vr a, vd x, ss, vr a274, uu]) rfl ?_
    refine XS.iconst X269.here hx rfl (hb hby d_prog_72_method_2_code_7) ?_
    refine XS.istore X269.here hx rfl (hb hby d_prog_72_method_2_code_8) rfl (l' := #[vr a, vd x, ss, vr a274, vi (1 : Int32)]) rfl ?_
    refine XS.iload X269.here hx rfl (hb hby d_prog_72_method_2_code_10) rfl ?_
    show Steps p.tables e below (T266.setTop (mkF m 12 #[vr a, vd x, ss, vr a274, vi (1 : Int32)] [(.int (1 : Int32))])) tQ
    refine XS.aloadN X269.here hx rfl (hb hby d_prog_72_method_2_code_12) rfl rfl ?_
    exact kk
  clear k285
  obtain ⟨T287, X288, e289, st290⟩ := getF X269 hx hZ hown (host := "") (Or.inl (tw29 hw)) Via.refl e270 F281 (g := (mkF m 13 #[vr a, vd x, ss, vr a274, vi (1 : Int32)] [(.ref a), (.int (1 : Int32))])) rfl rfl (hb hby d_prog_72_method_2_code_13)
  have k291 : own_G p e below E0 T287 (mkF m 16 #[vr a, vd x, ss, vr a274, vi (1 : Int32)] [(.int (3 : Int32)), (.int (1 : Int32))]) := fun tQ kk => k286 tQ (st290 _ kk)
  clear k286 st290
  have k292 : own_G p e below E0 T287 (mkF m 31 #[vr a, vd x, ss, vr a274, vi (1 : Int32)] [(.ref a), (.double (FP.i2d (0 : Int32))), (.double x), (.int (0 : Int32)), (.ref a274)]) := by
    intro tQ kk
    refine k291 tQ ?_
    refine XS.icmpNo X288.here hx rfl (hb hby d_prog_72_method_2_code_16) rfl (own_ic_gtN (by decide)) ?_
    refine XS.aloadN X288.here hx rfl (hb hby d_prog_72_method_2_code_19) rfl rfl ?_
    refine XS.iload X288.here hx rfl (hb hby d_prog_72_method_2_code_20) rfl ?_
    refine XS.iconst X288.here hx rfl (hb hby d_prog_72_method_2_code_22) ?_
    show Steps p.tables e below (T287.setTop (mkF m 23 #[vr a, vd x, ss, vr a274, vi (1 : Int32)] [(.int (1 : Int32)), (.int (1 : Int32)), (.ref a274)])) tQ
    refine XS.isub X288.here hx rfl (hb hby d_prog_72_method_2_code_23) rfl ?_
    refine XS.dloadN X288.here hx rfl (hb hby d_prog_72_method_2_code_24) rfl ?_
    refine XS.iload X288.here hx rfl (hb hby d_prog_72_method_2_code_25) rfl ?_
    refine XS.iconst X288.here hx rfl (hb hby d_prog_72_method_2_code_27) ?_
    show Steps p.tables e below (T287.setTop (mkF m 28 #[vr a, vd x, ss, vr a274, vi (1 : Int32)] [(.int (1 : Int32)), (.int (1 : Int32)), (.double x), (.int (0 : Int32)), (.ref a274)])) tQ
    refine XS.isub X288.here hx rfl (hb hby d_prog_72_method_2_code_28) rfl ?_
    refine XS.i2dS X288.here hx rfl (hb hby d_prog_72_method_2_code_29) rfl rfl ?_
    refine XS.aloadN X288.here hx rfl (hb hby d_prog_72_method_2_code_30) rfl rfl ?_
    exact kk
  clear k291
  obtain ⟨T293, X294, e295, st296⟩ := getF X288 hx hZ hown (host := "") (Or.inl (tw31 hw)) Via.refl e289 F282 (g := (mkF m 31 #[vr a, vd x, ss, vr a274, vi (1 : Int32)] [(.ref a), (.double (FP.i2d (0 : Int32))), (.double x), (.int (0 : Int32)), (.ref a274)])) rfl rfl (hb hby d_prog_72_method_2_code_31)
  have k297 : own_G p e below E0 T293 (mkF m 34 #[vr a, vd x, ss, vr a274, vi (1 : Int32)] [(.double z), (.double (FP.i2d (0 : Int32))), (.double x), (.int (0 : Int32)), (.ref a274)]) := fun tQ kk => k292 tQ (st296 _ kk)
  clear k292 st296
  have k298 : own_G p e below E0 T293 (mkF m 36 #[vr a, vd x, ss, vr a274, vi (1 : Int32)] [(.double (FP.dadd x (FP.dmul (FP.i2d (0 : Int32)) z))), (.int (0 : Int32)), (.ref a274)]) := by
    intro tQ kk
    refine k297 tQ ?_
    refine XS.dmulS X294.here hx rfl (hb hby d_prog_72_method_2_code_34) rfl (nn (0 : Int32) (by decide) (by decide)).1 rfl ?_
    refine XS.daddS X294.here hx rfl (hb hby d_prog_72_method_2_code_35) rfl (nn (0 : Int32) (by decide) (by decide)).2 rfl ?_
    exact kk
  clear k297
  obtain ⟨T299, h300, X301, e302, W303, F304, st305⟩ := own_A.dst X294 hx hZ e295 F284 (j := (0 : Int32)) (by decide) rfl (g := (mkF m 36 #[vr a, vd x, ss, vr a274, vi (1 : Int32)] [(.double (FP.dadd x (FP.dmul (FP.i2d (0 : Int32)) z))), (.int (0 : Int32)), (.ref a274)])) rfl rfl (hb hby d_prog_72_method_2_code_36)
  have N306 := Fr.snoc X301 N0 ge279
  have k307 : own_G p e below E0 T299 (mkF m 37 #[vr a, vd x, ss, vr a274, vi (1 : Int32)] []) := fun tQ kk => k298 tQ (st305 _ kk)
  clear k298 st305
  have F308 : fd5 Z h300 a (.int (3 : Int32)) := F281.other W303 (Or.inl n276)
  clear F281
  have F309 : fd6 Z h300 a (.double z) := F282.other W303 (Or.inl n276)
  clear F282
  have Z310 : n0 ≤ h300.size := by rw [W303.size]; exact Z280
  have K311 : Keep h0 h300 [] := K283.wr W303 (Or.inr nw278)
  have F312 : own_A Z h300 a274 .double [(.double (FP.dadd x (FP.dmul (FP.i2d (0 : Int32)) z))), (.double (0 : UInt64)), (.double (0 : UInt64))] := F304
  have k313 : own_G p e below E0 T299 (mkF m 13 #[vr a, vd x, ss, vr a274, vi (2 : Int32)] [(.ref a), (.int (2 : Int32))]) := by
    intro tQ kk
    refine k307 tQ ?_
    refine XS.iinc X301.here hx rfl (hb hby d_prog_72_method_2_code_37) rfl (l' := #[vr a, vd x, ss, vr a274, vi (2 : Int32)]) rfl ?_
    refine XS.goto X301.here hx rfl (pc0 := 40) (pc' := 10) rfl (hb hby d_prog_72_method_2_code_40) (by decide) (by decide) ?_
    refine XS.iload X301.here hx rfl (hb hby d_prog_72_method_2_code_10) rfl ?_
    refine XS.aloadN X301.here hx rfl (hb hby d_prog_72_method_2_code_12) rfl rfl ?_
    exact kk
  clear k307
  obtain ⟨T314, X315, e316, st317⟩ := getF X301 hx hZ hown (host := "") (Or.inl (tw29 hw)) Via.refl e302 F308 (g := (mkF m 13 #[vr a, vd x, ss, vr a274, vi (2 : Int32)] [(.ref a), (.int (2 : Int32))])) rfl rfl (hb hby d_prog_72_method_2_code_13)
  have k318 : own_G p e below E0 T314 (mkF m 16 #[vr a, vd x, ss, vr a274, vi (2 : Int32)] [(.int (3 : Int32)), (.int (2 : Int32))]) := fun tQ kk => k313 tQ (st317 _ kk)
  clear k313 st317
  have k319 : own_G p e below E0 T314 (mkF m 31 #[vr a, vd x, ss, vr a274, vi (2 : Int32)] [(.ref a), (.double (FP.i2d (1 : Int32))), (.double x), (.int (1 : Int32)), (.ref a274)]) := by
    intro tQ kk
    refine k318 tQ ?_
    refine XS.icmpNo X315.here hx rfl (hb hby d_prog_72_method_2_code_16) rfl (own_ic_gtN (by decide)) ?_
    refine XS.aloadN X315.here hx rfl (hb hby d_prog_72_method_2_code_19) rfl rfl ?_
    refine XS.iload X315.here hx rfl (hb hby d_prog_72_method_2_code_20) rfl ?_
    refine XS.iconst X315.here hx rfl (hb hby d_prog_72_method_2_code_22) ?_
    show Steps p.tables e below (T314.setTop (mkF m 23 #[vr a, vd x, ss, vr a274, vi (2 : Int32)] [(.int (1 : Int32)), (.int (2 : Int32)), (.ref a274)])) tQ
    refine XS.isub X315.here hx rfl (hb hby d_prog_72_method_2_code_23) rfl ?_
    refine XS.dloadN X315.here hx rfl (hb hby d_prog_72_method_2_code_24) rfl ?_
    refine XS.iload X315.here hx rfl (hb hby d_prog_72_method_2_code_25) rfl ?_
    refine XS.iconst X315.here hx rfl (hb hby d_prog_72_method_2_code_27) ?_
    show Steps p.tables e below (T314.setTop (mkF m 28 #[vr a, vd x, ss, vr a274, vi (2 : Int32)] [(.int (1 : Int32)), (.int (2 : Int32)), (.double x), (.int (1 : Int32)), (.ref a274)])) tQ
    refine XS.isub X315.here hx rfl (hb hby d_prog_72_method_2_code_28) rfl ?_
    refine XS.i2dS X315.here hx rfl (hb hby d_prog_72_method_2_code_29) rfl rfl ?_
    refine XS.aloadN X315.here hx rfl (hb hby d_prog_72_method_2_code_30) rfl rfl ?_
    exact kk
  clear k318
  obtain ⟨T320, X321, e322, st323⟩ := getF X315 hx hZ hown (host := "") (Or.inl (tw31 hw)) Via.refl e316 F309 (g := (mkF m 31 #[vr a, vd x, ss, vr a274, vi (2 : Int32)] [(.ref a), (.double (FP.i2d (1 : Int32))), (.double x), (.int (1 : Int32)), (.ref a274)])) rfl rfl (hb hby d_prog_72_method_2_code_31)
  have k324 : own_G p e below E0 T320 (mkF m 34 #[vr a, vd x, ss, vr a274, vi (2 : Int32)] [(.double z), (.double (FP.i2d (1 : Int32))), (.double x), (.int (1 : Int32)), (.ref a274)]) := fun tQ kk => k319 tQ (st323 _ kk)
  clear k319 st323
  have k325 : own_G p e below E0 T320 (mkF m 36 #[vr a, vd x, ss, vr a274, vi (2 : Int32)] [(.double (FP.dadd x (FP.dmul (FP.i2d (1 : Int32)) z))), (.int (1 : Int32)), (.ref a274)]) := by
    intro tQ kk
    refine k324 tQ ?_
    refine XS.dmulS X321.here hx rfl (hb hby d_prog_72_method_2_code_34) rfl (nn (1 : Int32) (by decide) (by decide)).1 rfl ?_
    refine XS.daddS X321.here hx rfl (hb hby d_prog_72_method_2_code_35) rfl (nn (1 : Int32) (by decide) (by decide)).2 rfl ?_
    exact kk
  clear k324
  obtain ⟨T326, h327, X328, e329, W330, F331, st332⟩ := own_A.dst X321 hx hZ e322 F312 (j := (1 : Int32)) (by decide) rfl (g := (mkF m 36 #[vr a, vd x, ss, vr a274, vi (2 : Int32)] [(.double (FP.dadd x (FP.dmul (FP.i2d (1 : Int32)) z))), (.int (1 : Int32)), (.ref a274)])) rfl rfl (hb hby d_prog_72_method_2_code_36)
  have N333 := Fr.snoc X328 N306 ge279
  have k334 : own_G p e below E0 T326 (mkF m 37 #[vr a, vd x, ss, vr a274, vi (2 : Int32)] []) := fun tQ kk => k325 tQ (st332 _ kk)
  clear k325 st332
  have F335 : fd5 Z h327 a (.int (3 : Int32)) := F308.other W330 (Or.inl n276)
  clear F308
  have F336 : fd6 Z h327 a (.double z) := F309.other W330 (Or.inl n276)
  clear F309
  have Z337 : n0 ≤ h327.size := by rw [W330.size]; exact Z310
  have K338 : Keep h0 h327 [] := K311.wr W330 (Or.inr nw278)
  have F339 : own_A Z h327 a274 .double [(.double (FP.dadd x (FP.dmul (FP.i2d (0 : Int32)) z))), (.double (FP.dadd x (FP.dmul (FP.i2d (1 : Int32)) z))), (.double (0 : UInt64))] := F331
  have k340 : own_G p e below E0 T326 (mkF m 13 #[vr a, vd x, ss, vr a274, vi (3 : Int32)] [(.ref a), (.int (3 : Int32))]) := by
    intro tQ kk
    refine k334 tQ ?_
    refine XS.iinc X328.here hx rfl (hb hby d_prog_72_method_2_code_37) rfl (l' := #[vr a, vd x, ss, vr a274, vi (3 : Int32)]) rfl ?_
    refine XS.goto X328.here hx rfl (pc0 := 40) (pc' := 10) rfl (hb hby d_prog_72_method_2_code_40) (by decide) (by decide) ?_
    refine XS.iload X328.here hx rfl (hb hby d_prog_72_method_2_code_10) rfl ?_
    refine XS.aloadN X328.here hx rfl (hb hby d_prog_72_method_2_code_12) rfl rfl ?_
    exact kk
  clear k334
  obtain ⟨T341, X342, e343, st344⟩ := getF X328 hx hZ hown (host := "") (Or.inl (tw29 hw)) Via.refl e329 F335 (g := (mkF m 13 #[vr a, vd x, ss, vr a274, vi (3 : Int32)] [(.ref a), (.int (3 : Int32))])) rfl rfl (hb hby d_prog_72_method_2_code_13)
  have k345 : own_G p e below E0 T341 (mkF m 16 #[vr a, vd x, ss, vr a274, vi (3 : Int32)] [(.int (3 : Int32)), (.int (3 : Int32))]) := fun tQ kk => k340 tQ (st344 _ kk)
  clear k340 st344
  have k346 : own_G p e below E0 T341 (mkF m 31 #[vr a, vd x, ss, vr a274, vi (3 : Int32)] [(.ref a), (.double (FP.i2d (2 : Int32))), (.double x), (.int (2 : Int32)), (.ref a274)]) := by
    intro tQ kk
    refine k345 tQ ?_
    refine XS.icmpNo X342.here hx rfl (hb hby d_prog_72_method_2_code_16) rfl (own_ic_gtN (by decide)) ?_
    refine XS.aloadN X342.here hx rfl (hb hby d_prog_72_method_2_code_19) rfl rfl ?_
    refine XS.iload X342.here hx rfl (hb hby d_prog_72_method_2_code_20) rfl ?_
    refine XS.iconst X342.here hx rfl (hb hby d_prog_72_method_2_code_22) ?_
    show Steps p.tables e below (T341.setTop (mkF m 23 #[vr a, vd x, ss, vr a274, vi (3 : Int32)] [(.int (1 : Int32)), (.int (3 : Int32)), (.ref a274)])) tQ
    refine XS.isub X342.here hx rfl (hb hby d_prog_72_method_2_code_23) rfl ?_
    refine XS.dloadN X342.here hx rfl (hb hby d_prog_72_method_2_code_24) rfl ?_
    refine XS.iload X342.here hx rfl (hb hby d_prog_72_method_2_code_25) rfl ?_
    refine XS.iconst X342.here hx rfl (hb hby d_prog_72_method_2_code_27) ?_
    show Steps p.tables e below (T341.setTop (mkF m 28 #[vr a, vd x, ss, vr a274, vi (3 : Int32)] [(.int (1 : Int32)), (.int (3 : Int32)), (.double x), (.int (2 : Int32)), (.ref a274)])) tQ
    refine XS.isub X342.here hx rfl (hb hby d_prog_72_method_2_code_28) rfl ?_
    refine XS.i2dS X342.here hx rfl (hb hby d_prog_72_method_2_code_29) rfl rfl ?_
    refine XS.aloadN X342.here hx rfl (hb hby d_prog_72_method_2_code_30) rfl rfl ?_
    exact kk
  clear k345
  obtain ⟨T347, X348, e349, st350⟩ := getF X342 hx hZ hown (host := "") (Or.inl (tw31 hw)) Via.refl e343 F336 (g := (mkF m 31 #[vr a, vd x, ss, vr a274, vi (3 : Int32)] [(.ref a), (.double (FP.i2d (2 : Int32))), (.double x), (.int (2 : Int32)), (.ref a274)])) rfl rfl (hb hby d_prog_72_method_2_code_31)
  have k351 : own_G p e below E0 T347 (mkF m 34 #[vr a, vd x, ss, vr a274, vi (3 : Int32)] [(.double z), (.double (FP.i2d (2 : Int32))), (.double x), (.int (2 : Int32)), (.ref a274)]) := fun tQ kk => k346 tQ (st350 _ kk)
  clear k346 st350
  have k352 : own_G p e below E0 T347 (mkF m 36 #[vr a, vd x, ss, vr a274, vi (3 : Int32)] [(.double (FP.dadd x (FP.dmul (FP.i2d (2 : Int32)) z))), (.int (2 : Int32)), (.ref a274)]) := by
    intro tQ kk
    refine k351 tQ ?_
    refine XS.dmulS X348.here hx rfl (hb hby d_prog_72_method_2_code_34) rfl (nn (2 : Int32) (by decide) (by decide)).1 rfl ?_
    refine XS.daddS X348.here hx rfl (hb hby d_prog_72_method_2_code_35) rfl (nn (2 : Int32) (by decide) (by decide)).2 rfl ?_
    exact kk
  clear k351
  obtain ⟨T353, h354, X355, e356, W357, F358, st359⟩ := own_A.dst X348 hx hZ e349 F339 (j := (2 : Int32)) (by decide) rfl (g := (mkF m 36 #[vr a, vd x, ss, vr a274, vi (3 : Int32)] [(.double (FP.dadd x (FP.dmul (FP.i2d (2 : Int32)) z))), (.int (2 : Int32)), (.ref a274)])) rfl rfl (hb hby d_prog_72_method_2_code_36)
  have N360 := Fr.snoc X355 N333 ge279
  have k361 : own_G p e below E0 T353 (mkF m 37 #[vr a, vd x, ss, vr a274, vi (3 : Int32)] []) := fun tQ kk => k352 tQ (st359 _ kk)
  clear k352 st359
  have F362 : fd5 Z h354 a (.int (3 : Int32)) := F335.other W357 (Or.inl n276)
  clear F335
  have F363 : fd6 Z h354 a (.double z) := F336.other W357 (Or.inl n276)
  clear F336
  have Z364 : n0 ≤ h354.size := by rw [W357.size]; exact Z337
  have K365 : Keep h0 h354 [] := K338.wr W357 (Or.inr nw278)
  have F366 : own_A Z h354 a274 .double [(.double (FP.dadd x (FP.dmul (FP.i2d (0 : Int32)) z))), (.double (FP.dadd x (FP.dmul (FP.i2d (1 : Int32)) z))), (.double (FP.dadd x (FP.dmul (FP.i2d (2 : Int32)) z)))] := F358
  have k367 : own_G p e below E0 T353 (mkF m 13 #[vr a, vd x, ss, vr a274, vi (4 : Int32)] [(.ref a), (.int (4 : Int32))]) := by
    intro tQ kk
    refine k361 tQ ?_
    refine XS.iinc X355.here hx rfl (hb hby d_prog_72_method_2_code_37) rfl (l' := #[vr a, vd x, ss, vr a274, vi (4 : Int32)]) rfl ?_
    refine XS.goto X355.here hx rfl (pc0 := 40) (pc' := 10) rfl (hb hby d_prog_72_method_2_code_40) (by decide) (by decide) ?_
    refine XS.iload X355.here hx rfl (hb hby d_prog_72_method_2_code_10) rfl ?_
    refine XS.aloadN X355.here hx rfl (hb hby d_prog_72_method_2_code_12) rfl rfl ?_
    exact kk
  clear k361
  obtain ⟨T368, X369, e370, st371⟩ := getF X355 hx hZ hown (host := "") (Or.inl (tw29 hw)) Via.refl e356 F362 (g := (mkF m 13 #[vr a, vd x, ss, vr a274, vi (4 : Int32)] [(.ref a), (.int (4 : Int32))])) rfl rfl (hb hby d_prog_72_method_2_code_13)
  have k372 : own_G p e below E0 T368 (mkF m 16 #[vr a, vd x, ss, vr a274, vi (4 : Int32)] [(.int (3 : Int32)), (.int (4 : Int32))]) := fun tQ kk => k367 tQ (st371 _ kk)
  clear k367 st371
  have k373 : own_G p e below E0 T368 (mkF m 44 #[vr a, vd x, ss, vr a274, vi (4 : Int32)] [(.ref a274)]) := by
    intro tQ kk
    refine k372 tQ ?_
    refine XS.icmpYes X369.here hx rfl (pc0 := 16) (pc' := 43) rfl (hb hby d_prog_72_method_2_code_16) rfl (own_ic_gtY (by decide)) (by decide) (by decide) ?_
    refine XS.aloadN X369.here hx rfl (hb hby d_prog_72_method_2_code_43) rfl rfl ?_
    exact kk
  clear k372
  obtain ⟨fs, hr, hrun, hended, hW, hsame⟩ := X369.leave (v := some (.ref a274)) (fun h => by rw [Bd.returns] at h; cases h)
  have hrun0 := k373 _ (retOut X369 hx Bd.returns (t := (.array .double)) rfl (Or.inr (Or.inr (Or.inr (Or.inr ⟨rfl, rfl, rfl⟩)))) (hb hby d_prog_72_method_2_code_44) hr)
  subst hE0
  refine ⟨_, _, hrun0, hrun, hended, _, _, rfl, ?_, ⟨_, rfl⟩, hW, hsame.mono (by decide) (by decide)⟩
  show QrmV3 Z a x z h0 n0 _ T368.heap _
  rw [e370]
  exact ⟨a274, rfl, N360, K365, F366⟩
def QrmV4 (Z : State) (a : Addr) (x : UInt64) (z : UInt64) (h0 : Heap) (n0 : Nat) (vQ : Option Value) (hQ : Heap) (LQ : List Loc) : Prop := ∃ (r : Addr), vQ = some (.ref r) ∧ Fr n0 LQ ∧ Keep h0 hQ [] ∧ (own_A Z hQ r .double [(.double (FP.dadd x (FP.dmul (FP.i2d (0 : Int32)) z))), (.double (FP.dadd x (FP.dmul (FP.i2d (1 : Int32)) z))), (.double (FP.dadd x (FP.dmul (FP.i2d (2 : Int32)) z))), (.double (FP.dadd x (FP.dmul (FP.i2d (3 : Int32)) z)))])
theorem ef_rmV4 (m : MethodId) (a : Addr) (x : UInt64) (z : UInt64) : entryFrame m #[(.ref a), (.double x)] 5 = mkF m 0 #[vr a, vd x, ss, uu, uu] [] := by first | (simp [entryFrame, mkF, argsToLocals, Value.category]; done) | rfl
set_option maxRecDepth 65536 in
set_option maxHeartbeats 40000000 in
theorem rmV4 (l : Launch) (Z : State) (a0 : Array Value) (hw : ∀ d ∈ tables_1, d.before a0 Z = true) (ws : List Jvm.Cond) (a : Addr) (x : UInt64) (z : UInt64) (h0 : Heap) (n0 : Nat) (Z0 : n0 ≤ h0.size) (F1 : fd5 Z h0 a (.int (4 : Int32))) (F2 : fd6 Z h0 a (.double z)) (nn : ∀ k : Int32, 0 ≤ k.toInt → k.toInt ≤ 8 → NoNaN64 (FP.dmul (FP.i2d k) z) ∧ NoNaN64 (FP.dadd x (FP.dmul (FP.i2d k) z))) :
    MetFree l mn12 (head1 (Jvm.Cond.code mn12 prog_72_method_2_code 5 (some (.array .double)) :: ws) ({ frames := 0, cells := 1, slots := 4, locals := 0 } : Room)) (fun aA U => aA = #[(.ref a), (.double x)] ∧ Z.Warmed39 U.vm ∧ U.heap = h0) (fun _ _ _ _ _ => True) (fun _ U o U' => ∃ vR LR, o = .returned vR ∧ QrmV4 Z a x z h0 n0 vR U'.heap LR ∧ FrameEnd U o U' LR ({ frames := 0, cells := 1, slots := 4, locals := 0 } : Room).cells ({ frames := 0, cells := 1, slots := 4, locals := 0 } : Room).slots) := by
  refine MetFree.of_bodySF (plainFor_of_name pn_com_example_capwright_capwright_premise_ConstantAmountChange) hisR ?_
  intro p e s m args below meth c s₁ Bd hml0 hPre hKk
  obtain ⟨rfl, hZ, hh⟩ := hPre
  have hx := Bd.exec
  have hby := Bd.bytes
  have hml : c.maxLocals = 5 := hml0
  have hown : s.vm.findClass "com/example/capwright/capwright/premise/ConstantAmountChange" = some m.cls := findClass_of_methodNamed Bd.named
  have hnm := (name_of_methodNamed Bd.named Bd.method).1
  have X0 : Stand p l e ({ frames := 0, cells := 1, slots := 4, locals := 0 } : Room) s m #[(.ref a), (.double x)] below meth c s₁ [] 0 0 := Stand.of_body Bd
  have e0 : s₁.heap = h0 := by rw [← hh, Bd.state]; rfl
  have N0 := Fr.nil n0
  obtain ⟨E0, hE0⟩ : ∃ zE : State, zE = s₁.setTop (entryFrame m #[(.ref a), (.double x)] 5) := ⟨_, rfl⟩
  have k0 : own_G p e below E0 s₁ (mkF m 0 #[vr a, vd x, ss, uu, uu] []) := fun tz kz => hE0 ▸ castTop (ef_rmV4 m a x z) kz
  have K0 : Keep h0 h0 [] := Keep.refl _ _
  have k374 : own_G p e below E0 s₁ (mkF m 1 #[vr a, vd x, ss, uu, uu] [(.ref a)]) := by
    intro tQ kk
    refine k0 tQ ?_
    refine XS.aloadN X0.here hx rfl (hb hby d_prog_72_method_2_code_0) rfl rfl ?_
    exact kk
  clear k0
  obtain ⟨T375, X376, e377, st378⟩ := getF X0 hx hZ hown (host := "") (Or.inl (tw29 hw)) Via.refl e0 F1 (g := (mkF m 1 #[vr a, vd x, ss, uu, uu] [(.ref a)])) rfl rfl (hb hby d_prog_72_method_2_code_1)
  have k379 : own_G p e below E0 T375 (mkF m 4 #[vr a, vd x, ss, uu, uu] [(.int (4 : Int32))]) := fun tQ kk => k374 tQ (st378 _ kk)
  clear k374 st378
  obtain ⟨T380, h381, cA382, X383, e384, E385, A386, st387⟩ := newP (aty := .double) X376 hx hZ (tw38 hw) e377 (g := (mkF m 4 #[vr a, vd x, ss, uu, uu] [(.int (4 : Int32))])) rfl (hb hby d_prog_72_method_2_code_4) rfl (by decide) (cap := 4) (by decide) (by decide) (by decide) (by decide)
  obtain ⟨a388, g389⟩ : ∃ zA : Nat, zA = h0.size := ⟨_, rfl⟩
  rw [← g389] at A386 st387
  have n390 : a ≠ a388 := own_lt_ne F1.lt g389
  have n391 : a388 ≠ a := fun q => n390 q.symm
  have nw392 : h0.size ≤ a388 := own_ge_of K0.1 g389
  have ge393 : n0 ≤ a388 := own_ge_of Z0 g389
  have Z394 : n0 ≤ h381.size := Nat.le_trans Z0 E385.1
  have F395 : fd5 Z h381 a (.int (4 : Int32)) := F1.ext E385
  clear F1
  have F396 : fd6 Z h381 a (.double z) := F2.ext E385
  clear F2
  have K397 : Keep h0 h381 [] := K0.ext E385
  have F398 : own_A Z h381 a388 .double [(.double (0 : UInt64)), (.double (0 : UInt64)), (.double (0 : UInt64)), (.double (0 : UInt64))] := own_A.new A386
  have k399 : own_G p e below E0 T380 (mkF m 6 #[vr a, vd x, ss, uu, uu] [(.ref a388)]) := fun tQ kk => k379 tQ (st387 _ kk)
  clear k379 st387
  have k400 : own_G p e below E0 T380 (mkF m 13 #[vr a, vd x, ss, vr a388, vi (1 : Int32)] [(.ref a), (.int (1 : Int32))]) := by
    intro tQ kk
    refine k399 tQ ?_
    refine XS.astoreN X383.here hx rfl (hb hby d_prog_72_method_2_code_6) rfl rfl (l' := #[vr a, vd x, ss, vr a388, uu]) rfl ?_
    refine XS.iconst X383.here hx rfl (hb hby d_prog_72_method_2_code_7) ?_
    refine XS.istore X383.here hx rfl (hb hby d_prog_72_method_2_code_8) rfl (l' := #[vr a, vd x, ss, vr a388, vi (1 : Int32)]) rfl ?_
    refine XS.iload X383.here hx rfl (hb hby d_prog_72_method_2_code_10) rfl ?_
    show Steps p.tables e below (T380.setTop (mkF m 12 #[vr a, vd x, ss, vr a388, vi (1 : Int32)] [(.int (1 : Int32))])) tQ
    refine XS.aloadN X383.here hx rfl (hb hby d_prog_72_method_2_code_12) rfl rfl ?_
    exact kk
  clear k399
  obtain ⟨T401, X402, e403, st404⟩ := getF X383 hx hZ hown (host := "") (Or.inl (tw29 hw)) Via.refl e384 F395 (g := (mkF m 13 #[vr a, vd x, ss, vr a388, vi (1 : Int32)] [(.ref a), (.int (1 : Int32))])) rfl rfl (hb hby d_prog_72_method_2_code_13)
  have k405 : own_G p e below E0 T401 (mkF m 16 #[vr a, vd x, ss, vr a388, vi (1 : Int32)] [(.int (4 : Int32)), (.int (1 : Int32))]) := fun tQ kk => k400 tQ (st404 _ kk)
  clear k400 st404
  have k406 : own_G p e below E0 T401 (mkF m 31 #[vr a, vd x, ss, vr a388, vi (1 : Int32)] [(.ref a), (.double (FP.i2d (0 : Int32))), (.double x), (.int (0 : Int32)), (.ref a388)]) := by
    intro tQ kk
    refine k405 tQ ?_
    refine XS.icmpNo X402.here hx rfl (hb hby d_prog_72_method_2_code_16) rfl (own_ic_gtN (by decide)) ?_
    refine XS.aloadN X402.here hx rfl (hb hby d_prog_72_method_2_code_19) rfl rfl ?_
    refine XS.iload X402.here hx rfl (hb hby d_prog_72_method_2_code_20) rfl ?_
    refine XS.iconst X402.here hx rfl (hb hby d_prog_72_method_2_code_22) ?_
    show Steps p.tables e below (T401.setTop (mkF m 23 #[vr a, vd x, ss, vr a388, vi (1 : Int32)] [(.int (1 : Int32)), (.int (1 : Int32)), (.ref a388)])) tQ
    refine XS.isub X402.here hx rfl (hb hby d_prog_72_method_2_code_23) rfl ?_
    refine XS.dloadN X402.here hx rfl (hb hby d_prog_72_method_2_code_24) rfl ?_
    refine XS.iload X402.here hx rfl (hb hby d_prog_72_method_2_code_25) rfl ?_
    refine XS.iconst X402.here hx rfl (hb hby d_prog_72_method_2_code_27) ?_
    show Steps p.tables e below (T401.setTop (mkF m 28 #[vr a, vd x, ss, vr a388, vi (1 : Int32)] [(.int (1 : Int32)), (.int (1 : Int32)), (.double x), (.int (0 : Int32)), (.ref a388)])) tQ
    refine XS.isub X402.here hx rfl (hb hby d_prog_72_method_2_code_28) rfl ?_
    refine XS.i2dS X402.here hx rfl (hb hby d_prog_72_method_2_code_29) rfl rfl ?_
    refine XS.aloadN X402.here hx rfl (hb hby d_prog_72_method_2_code_30) rfl rfl ?_
    exact kk
  clear k405
  obtain ⟨T407, X408, e409, st410⟩ := getF X402 hx hZ hown (host := "") (Or.inl (tw31 hw)) Via.refl e403 F396 (g := (mkF m 31 #[vr a, vd x, ss, vr a388, vi (1 : Int32)] [(.ref a), (.double (FP.i2d (0 : Int32))), (.double x), (.int (0 : Int32)), (.ref a388)])) rfl rfl (hb hby d_prog_72_method_2_code_31)
  have k411 : own_G p e below E0 T407 (mkF m 34 #[vr a, vd x, ss, vr a388, vi (1 : Int32)] [(.double z), (.double (FP.i2d (0 : Int32))), (.double x), (.int (0 : Int32)), (.ref a388)]) := fun tQ kk => k406 tQ (st410 _ kk)
  clear k406 st410
  have k412 : own_G p e below E0 T407 (mkF m 36 #[vr a, vd x, ss, vr a388, vi (1 : Int32)] [(.double (FP.dadd x (FP.dmul (FP.i2d (0 : Int32)) z))), (.int (0 : Int32)), (.ref a388)]) := by
    intro tQ kk
    refine k411 tQ ?_
    refine XS.dmulS X408.here hx rfl (hb hby d_prog_72_method_2_code_34) rfl (nn (0 : Int32) (by decide) (by decide)).1 rfl ?_
    refine XS.daddS X408.here hx rfl (hb hby d_prog_72_method_2_code_35) rfl (nn (0 : Int32) (by decide) (by decide)).2 rfl ?_
    exact kk
  clear k411
  obtain ⟨T413, h414, X415, e416, W417, F418, st419⟩ := own_A.dst X408 hx hZ e409 F398 (j := (0 : Int32)) (by decide) rfl (g := (mkF m 36 #[vr a, vd x, ss, vr a388, vi (1 : Int32)] [(.double (FP.dadd x (FP.dmul (FP.i2d (0 : Int32)) z))), (.int (0 : Int32)), (.ref a388)])) rfl rfl (hb hby d_prog_72_method_2_code_36)
  have N420 := Fr.snoc X415 N0 ge393
  have k421 : own_G p e below E0 T413 (mkF m 37 #[vr a, vd x, ss, vr a388, vi (1 : Int32)] []) := fun tQ kk => k412 tQ (st419 _ kk)
  clear k412 st419
  have F422 : fd5 Z h414 a (.int (4 : Int32)) := F395.other W417 (Or.inl n390)
  clear F395
  have F423 : fd6 Z h414 a (.double z) := F396.other W417 (Or.inl n390)
  clear F396
  have Z424 : n0 ≤ h414.size := by rw [W417.size]; exact Z394
  have K425 : Keep h0 h414 [] := K397.wr W417 (Or.inr nw392)
  have F426 : own_A Z h414 a388 .double [(.double (FP.dadd x (FP.dmul (FP.i2d (0 : Int32)) z))), (.double (0 : UInt64)), (.double (0 : UInt64)), (.double (0 : UInt64))] := F418
  have k427 : own_G p e below E0 T413 (mkF m 13 #[vr a, vd x, ss, vr a388, vi (2 : Int32)] [(.ref a), (.int (2 : Int32))]) := by
    intro tQ kk
    refine k421 tQ ?_
    refine XS.iinc X415.here hx rfl (hb hby d_prog_72_method_2_code_37) rfl (l' := #[vr a, vd x, ss, vr a388, vi (2 : Int32)]) rfl ?_
    refine XS.goto X415.here hx rfl (pc0 := 40) (pc' := 10) rfl (hb hby d_prog_72_method_2_code_40) (by decide) (by decide) ?_
    refine XS.iload X415.here hx rfl (hb hby d_prog_72_method_2_code_10) rfl ?_
    refine XS.aloadN X415.here hx rfl (hb hby d_prog_72_method_2_code_12) rfl rfl ?_
    exact kk
  clear k421
  obtain ⟨T428, X429, e430, st431⟩ := getF X415 hx hZ hown (host := "") (Or.inl (tw29 hw)) Via.refl e416 F422 (g := (mkF m 13 #[vr a, vd x, ss, vr a388, vi (2 : Int32)] [(.ref a), (.int (2 : Int32))])) rfl rfl (hb hby d_prog_72_method_2_code_13)
  have k432 : own_G p e below E0 T428 (mkF m 16 #[vr a, vd x, ss, vr a388, vi (2 : Int32)] [(.int (4 : Int32)), (.int (2 : Int32))]) := fun tQ kk => k427 tQ (st431 _ kk)
  clear k427 st431
  have k433 : own_G p e below E0 T428 (mkF m 31 #[vr a, vd x, ss, vr a388, vi (2 : Int32)] [(.ref a), (.double (FP.i2d (1 : Int32))), (.double x), (.int (1 : Int32)), (.ref a388)]) := by
    intro tQ kk
    refine k432 tQ ?_
    refine XS.icmpNo X429.here hx rfl (hb hby d_prog_72_method_2_code_16) rfl (own_ic_gtN (by decide)) ?_
    refine XS.aloadN X429.here hx rfl (hb hby d_prog_72_method_2_code_19) rfl rfl ?_
    refine XS.iload X429.here hx rfl (hb hby d_prog_72_method_2_code_20) rfl ?_
    refine XS.iconst X429.here hx rfl (hb hby d_prog_72_method_2_code_22) ?_
    show Steps p.tables e below (T428.setTop (mkF m 23 #[vr a, vd x, ss, vr a388, vi (2 : Int32)] [(.int (1 : Int32)), (.int (2 : Int32)), (.ref a388)])) tQ
    refine XS.isub X429.here hx rfl (hb hby d_prog_72_method_2_code_23) rfl ?_
    refine XS.dloadN X429.here hx rfl (hb hby d_prog_72_method_2_code_24) rfl ?_
    refine XS.iload X429.here hx rfl (hb hby d_prog_72_method_2_code_25) rfl ?_
    refine XS.iconst X429.here hx rfl (hb hby d_prog_72_method_2_code_27) ?_
    show Steps p.tables e below (T428.setTop (mkF m 28 #[vr a, vd x, ss, vr a388, vi (2 : Int32)] [(.int (1 : Int32)), (.int (2 : Int32)), (.double x), (.int (1 : Int32)), (.ref a388)])) tQ
    refine XS.isub X429.here hx rfl (hb hby d_prog_72_method_2_code_28) rfl ?_
    refine XS.i2dS X429.here hx rfl (hb hby d_prog_72_method_2_code_29) rfl rfl ?_
    refine XS.aloadN X429.here hx rfl (hb hby d_prog_72_method_2_code_30) rfl rfl ?_
    exact kk
  clear k432
  obtain ⟨T434, X435, e436, st437⟩ := getF X429 hx hZ hown (host := "") (Or.inl (tw31 hw)) Via.refl e430 F423 (g := (mkF m 31 #[vr a, vd x, ss, vr a388, vi (2 : Int32)] [(.ref a), (.double (FP.i2d (1 : Int32))), (.double x), (.int (1 : Int32)), (.ref a388)])) rfl rfl (hb hby d_prog_72_method_2_code_31)
  have k438 : own_G p e below E0 T434 (mkF m 34 #[vr a, vd x, ss, vr a388, vi (2 : Int32)] [(.double z), (.double (FP.i2d (1 : Int32))), (.double x), (.int (1 : Int32)), (.ref a388)]) := fun tQ kk => k433 tQ (st437 _ kk)
  clear k433 st437
  have k439 : own_G p e below E0 T434 (mkF m 36 #[vr a, vd x, ss, vr a388, vi (2 : Int32)] [(.double (FP.dadd x (FP.dmul (FP.i2d (1 : Int32)) z))), (.int (1 : Int32)), (.ref a388)]) := by
    intro tQ kk
    refine k438 tQ ?_
    refine XS.dmulS X435.here hx rfl (hb hby d_prog_72_method_2_code_34) rfl (nn (1 : Int32) (by decide) (by decide)).1 rfl ?_
    refine XS.daddS X435.here hx rfl (hb hby d_prog_72_method_2_code_35) rfl (nn (1 : Int32) (by decide) (by decide)).2 rfl ?_
    exact kk
  clear k438
  obtain ⟨T440, h441, X442, e443, W444, F445, st446⟩ := own_A.dst X435 hx hZ e436 F426 (j := (1 : Int32)) (by decide) rfl (g := (mkF m 36 #[vr a, vd x, ss, vr a388, vi (2 : Int32)] [(.double (FP.dadd x (FP.dmul (FP.i2d (1 : Int32)) z))), (.int (1 : Int32)), (.ref a388)])) rfl rfl (hb hby d_prog_72_method_2_code_36)
  have N447 := Fr.snoc X442 N420 ge393
  have k448 : own_G p e below E0 T440 (mkF m 37 #[vr a, vd x, ss, vr a388, vi (2 : Int32)] []) := fun tQ kk => k439 tQ (st446 _ kk)
  clear k439 st446
  have F449 : fd5 Z h441 a (.int (4 : Int32)) := F422.other W444 (Or.inl n390)
  clear F422
  have F450 : fd6 Z h441 a (.double z) := F423.other W444 (Or.inl n390)
  clear F423
  have Z451 : n0 ≤ h441.size := by rw [W444.size]; exact Z424
  have K452 : Keep h0 h441 [] := K425.wr W444 (Or.inr nw392)
  have F453 : own_A Z h441 a388 .double [(.double (FP.dadd x (FP.dmul (FP.i2d (0 : Int32)) z))), (.double (FP.dadd x (FP.dmul (FP.i2d (1 : Int32)) z))), (.double (0 : UInt64)), (.double (0 : UInt64))] := F445
  have k454 : own_G p e below E0 T440 (mkF m 13 #[vr a, vd x, ss, vr a388, vi (3 : Int32)] [(.ref a), (.int (3 : Int32))]) := by
    intro tQ kk
    refine k448 tQ ?_
    refine XS.iinc X442.here hx rfl (hb hby d_prog_72_method_2_code_37) rfl (l' := #[vr a, vd x, ss, vr a388, vi (3 : Int32)]) rfl ?_
    refine XS.goto X442.here hx rfl (pc0 := 40) (pc' := 10) rfl (hb hby d_prog_72_method_2_code_40) (by decide) (by decide) ?_
    refine XS.iload X442.here hx rfl (hb hby d_prog_72_method_2_code_10) rfl ?_
    refine XS.aloadN X442.here hx rfl (hb hby d_prog_72_method_2_code_12) rfl rfl ?_
    exact kk
  clear k448
  obtain ⟨T455, X456, e457, st458⟩ := getF X442 hx hZ hown (host := "") (Or.inl (tw29 hw)) Via.refl e443 F449 (g := (mkF m 13 #[vr a, vd x, ss, vr a388, vi (3 : Int32)] [(.ref a), (.int (3 : Int32))])) rfl rfl (hb hby d_prog_72_method_2_code_13)
  have k459 : own_G p e below E0 T455 (mkF m 16 #[vr a, vd x, ss, vr a388, vi (3 : Int32)] [(.int (4 : Int32)), (.int (3 : Int32))]) := fun tQ kk => k454 tQ (st458 _ kk)
  clear k454 st458
  have k460 : own_G p e below E0 T455 (mkF m 31 #[vr a, vd x, ss, vr a388, vi (3 : Int32)] [(.ref a), (.double (FP.i2d (2 : Int32))), (.double x), (.int (2 : Int32)), (.ref a388)]) := by
    intro tQ kk
    refine k459 tQ ?_
    refine XS.icmpNo X456.here hx rfl (hb hby d_prog_72_method_2_code_16) rfl (own_ic_gtN (by decide)) ?_
    refine XS.aloadN X456.here hx rfl (hb hby d_prog_72_method_2_code_19) rfl rfl ?_
    refine XS.iload X456.here hx rfl (hb hby d_prog_72_method_2_code_20) rfl ?_
    refine XS.iconst X456.here hx rfl (hb hby d_prog_72_method_2_code_22) ?_
    show Steps p.tables e below (T455.setTop (mkF m 23 #[vr a, vd x, ss, vr a388, vi (3 : Int32)] [(.int (1 : Int32)), (.int (3 : Int32)), (.ref a388)])) tQ
    refine XS.isub X456.here hx rfl (hb hby d_prog_72_method_2_code_23) rfl ?_
    refine XS.dloadN X456.here hx rfl (hb hby d_prog_72_method_2_code_24) rfl ?_
    refine XS.iload X456.here hx rfl (hb hby d_prog_72_method_2_code_25) rfl ?_
    refine XS.iconst X456.here hx rfl (hb hby d_prog_72_method_2_code_27) ?_
    show Steps p.tables e below (T455.setTop (mkF m 28 #[vr a, vd x, ss, vr a388, vi (3 : Int32)] [(.int (1 : Int32)), (.int (3 : Int32)), (.double x), (.int (2 : Int32)), (.ref a388)])) tQ
    refine XS.isub X456.here hx rfl (hb hby d_prog_72_method_2_code_28) rfl ?_
    refine XS.i2dS X456.here hx rfl (hb hby d_prog_72_method_2_code_29) rfl rfl ?_
    refine XS.aloadN X456.here hx rfl (hb hby d_prog_72_method_2_code_30) rfl rfl ?_
    exact kk
  clear k459
  obtain ⟨T461, X462, e463, st464⟩ := getF X456 hx hZ hown (host := "") (Or.inl (tw31 hw)) Via.refl e457 F450 (g := (mkF m 31 #[vr a, vd x, ss, vr a388, vi (3 : Int32)] [(.ref a), (.double (FP.i2d (2 : Int32))), (.double x), (.int (2 : Int32)), (.ref a388)])) rfl rfl (hb hby d_prog_72_method_2_code_31)
  have k465 : own_G p e below E0 T461 (mkF m 34 #[vr a, vd x, ss, vr a388, vi (3 : Int32)] [(.double z), (.double (FP.i2d (2 : Int32))), (.double x), (.int (2 : Int32)), (.ref a388)]) := fun tQ kk => k460 tQ (st464 _ kk)
  clear k460 st464
  have k466 : own_G p e below E0 T461 (mkF m 36 #[vr a, vd x, ss, vr a388, vi (3 : Int32)] [(.double (FP.dadd x (FP.dmul (FP.i2d (2 : Int32)) z))), (.int (2 : Int32)), (.ref a388)]) := by
    intro tQ kk
    refine k465 tQ ?_
    refine XS.dmulS X462.here hx rfl (hb hby d_prog_72_method_2_code_34) rfl (nn (2 : Int32) (by decide) (by decide)).1 rfl ?_
    refine XS.daddS X462.here hx rfl (hb hby d_prog_72_method_2_code_35) rfl (nn (2 : Int32) (by decide) (by decide)).2 rfl ?_
    exact kk
  clear k465
  obtain ⟨T467, h468, X469, e470, W471, F472, st473⟩ := own_A.dst X462 hx hZ e463 F453 (j := (2 : Int32)) (by decide) rfl (g := (mkF m 36 #[vr a, vd x, ss, vr a388, vi (3 : Int32)] [(.double (FP.dadd x (FP.dmul (FP.i2d (2 : Int32)) z))), (.int (2 : Int32)), (.ref a388)])) rfl rfl (hb hby d_prog_72_method_2_code_36)
  have N474 := Fr.snoc X469 N447 ge393
  have k475 : own_G p e below E0 T467 (mkF m 37 #[vr a, vd x, ss, vr a388, vi (3 : Int32)] []) := fun tQ kk => k466 tQ (st473 _ kk)
  clear k466 st473
  have F476 : fd5 Z h468 a (.int (4 : Int32)) := F449.other W471 (Or.inl n390)
  clear F449
  have F477 : fd6 Z h468 a (.double z) := F450.other W471 (Or.inl n390)
  clear F450
  have Z478 : n0 ≤ h468.size := by rw [W471.size]; exact Z451
  have K479 : Keep h0 h468 [] := K452.wr W471 (Or.inr nw392)
  have F480 : own_A Z h468 a388 .double [(.double (FP.dadd x (FP.dmul (FP.i2d (0 : Int32)) z))), (.double (FP.dadd x (FP.dmul (FP.i2d (1 : Int32)) z))), (.double (FP.dadd x (FP.dmul (FP.i2d (2 : Int32)) z))), (.double (0 : UInt64))] := F472
  have k481 : own_G p e below E0 T467 (mkF m 13 #[vr a, vd x, ss, vr a388, vi (4 : Int32)] [(.ref a), (.int (4 : Int32))]) := by
    intro tQ kk
    refine k475 tQ ?_
    refine XS.iinc X469.here hx rfl (hb hby d_prog_72_method_2_code_37) rfl (l' := #[vr a, vd x, ss, vr a388, vi (4 : Int32)]) rfl ?_
    refine XS.goto X469.here hx rfl (pc0 := 40) (pc' := 10) rfl (hb hby d_prog_72_method_2_code_40) (by decide) (by decide) ?_
    refine XS.iload X469.here hx rfl (hb hby d_prog_72_method_2_code_10) rfl ?_
    refine XS.aloadN X469.here hx rfl (hb hby d_prog_72_method_2_code_12) rfl rfl ?_
    exact kk
  clear k475
  obtain ⟨T482, X483, e484, st485⟩ := getF X469 hx hZ hown (host := "") (Or.inl (tw29 hw)) Via.refl e470 F476 (g := (mkF m 13 #[vr a, vd x, ss, vr a388, vi (4 : Int32)] [(.ref a), (.int (4 : Int32))])) rfl rfl (hb hby d_prog_72_method_2_code_13)
  have k486 : own_G p e below E0 T482 (mkF m 16 #[vr a, vd x, ss, vr a388, vi (4 : Int32)] [(.int (4 : Int32)), (.int (4 : Int32))]) := fun tQ kk => k481 tQ (st485 _ kk)
  clear k481 st485
  have k487 : own_G p e below E0 T482 (mkF m 31 #[vr a, vd x, ss, vr a388, vi (4 : Int32)] [(.ref a), (.double (FP.i2d (3 : Int32))), (.double x), (.int (3 : Int32)), (.ref a388)]) := by
    intro tQ kk
    refine k486 tQ ?_
    refine XS.icmpNo X483.here hx rfl (hb hby d_prog_72_method_2_code_16) rfl (own_ic_gtN (by decide)) ?_
    refine XS.aloadN X483.here hx rfl (hb hby d_prog_72_method_2_code_19) rfl rfl ?_
    refine XS.iload X483.here hx rfl (hb hby d_prog_72_method_2_code_20) rfl ?_
    refine XS.iconst X483.here hx rfl (hb hby d_prog_72_method_2_code_22) ?_
    show Steps p.tables e below (T482.setTop (mkF m 23 #[vr a, vd x, ss, vr a388, vi (4 : Int32)] [(.int (1 : Int32)), (.int (4 : Int32)), (.ref a388)])) tQ
    refine XS.isub X483.here hx rfl (hb hby d_prog_72_method_2_code_23) rfl ?_
    refine XS.dloadN X483.here hx rfl (hb hby d_prog_72_method_2_code_24) rfl ?_
    refine XS.iload X483.here hx rfl (hb hby d_prog_72_method_2_code_25) rfl ?_
    refine XS.iconst X483.here hx rfl (hb hby d_prog_72_method_2_code_27) ?_
    show Steps p.tables e below (T482.setTop (mkF m 28 #[vr a, vd x, ss, vr a388, vi (4 : Int32)] [(.int (1 : Int32)), (.int (4 : Int32)), (.double x), (.int (3 : Int32)), (.ref a388)])) tQ
    refine XS.isub X483.here hx rfl (hb hby d_prog_72_method_2_code_28) rfl ?_
    refine XS.i2dS X483.here hx rfl (hb hby d_prog_72_method_2_code_29) rfl rfl ?_
    refine XS.aloadN X483.here hx rfl (hb hby d_prog_72_method_2_code_30) rfl rfl ?_
    exact kk
  clear k486
  obtain ⟨T488, X489, e490, st491⟩ := getF X483 hx hZ hown (host := "") (Or.inl (tw31 hw)) Via.refl e484 F477 (g := (mkF m 31 #[vr a, vd x, ss, vr a388, vi (4 : Int32)] [(.ref a), (.double (FP.i2d (3 : Int32))), (.double x), (.int (3 : Int32)), (.ref a388)])) rfl rfl (hb hby d_prog_72_method_2_code_31)
  have k492 : own_G p e below E0 T488 (mkF m 34 #[vr a, vd x, ss, vr a388, vi (4 : Int32)] [(.double z), (.double (FP.i2d (3 : Int32))), (.double x), (.int (3 : Int32)), (.ref a388)]) := fun tQ kk => k487 tQ (st491 _ kk)
  clear k487 st491
  have k493 : own_G p e below E0 T488 (mkF m 36 #[vr a, vd x, ss, vr a388, vi (4 : Int32)] [(.double (FP.dadd x (FP.dmul (FP.i2d (3 : Int32)) z))), (.int (3 : Int32)), (.ref a388)]) := by
    intro tQ kk
    refine k492 tQ ?_
    refine XS.dmulS X489.here hx rfl (hb hby d_prog_72_method_2_code_34) rfl (nn (3 : Int32) (by decide) (by decide)).1 rfl ?_
    refine XS.daddS X489.here hx rfl (hb hby d_prog_72_method_2_code_35) rfl (nn (3 : Int32) (by decide) (by decide)).2 rfl ?_
    exact kk
  clear k492
  obtain ⟨T494, h495, X496, e497, W498, F499, st500⟩ := own_A.dst X489 hx hZ e490 F480 (j := (3 : Int32)) (by decide) rfl (g := (mkF m 36 #[vr a, vd x, ss, vr a388, vi (4 : Int32)] [(.double (FP.dadd x (FP.dmul (FP.i2d (3 : Int32)) z))), (.int (3 : Int32)), (.ref a388)])) rfl rfl (hb hby d_prog_72_method_2_code_36)
  have N501 := Fr.snoc X496 N474 ge393
  have k502 : own_G p e below E0 T494 (mkF m 37 #[vr a, vd x, ss, vr a388, vi (4 : Int32)] []) := fun tQ kk => k493 tQ (st500 _ kk)
  clear k493 st500
  have F503 : fd5 Z h495 a (.int (4 : Int32)) := F476.other W498 (Or.inl n390)
  clear F476
  have F504 : fd6 Z h495 a (.double z) := F477.other W498 (Or.inl n390)
  clear F477
  have Z505 : n0 ≤ h495.size := by rw [W498.size]; exact Z478
  have K506 : Keep h0 h495 [] := K479.wr W498 (Or.inr nw392)
  have F507 : own_A Z h495 a388 .double [(.double (FP.dadd x (FP.dmul (FP.i2d (0 : Int32)) z))), (.double (FP.dadd x (FP.dmul (FP.i2d (1 : Int32)) z))), (.double (FP.dadd x (FP.dmul (FP.i2d (2 : Int32)) z))), (.double (FP.dadd x (FP.dmul (FP.i2d (3 : Int32)) z)))] := F499
  have k508 : own_G p e below E0 T494 (mkF m 13 #[vr a, vd x, ss, vr a388, vi (5 : Int32)] [(.ref a), (.int (5 : Int32))]) := by
    intro tQ kk
    refine k502 tQ ?_
    refine XS.iinc X496.here hx rfl (hb hby d_prog_72_method_2_code_37) rfl (l' := #[vr a, vd x, ss, vr a388, vi (5 : Int32)]) rfl ?_
    refine XS.goto X496.here hx rfl (pc0 := 40) (pc' := 10) rfl (hb hby d_prog_72_method_2_code_40) (by decide) (by decide) ?_
    refine XS.iload X496.here hx rfl (hb hby d_prog_72_method_2_code_10) rfl ?_
    refine XS.aloadN X496.here hx rfl (hb hby d_prog_72_method_2_code_12) rfl rfl ?_
    exact kk
  clear k502
  obtain ⟨T509, X510, e511, st512⟩ := getF X496 hx hZ hown (host := "") (Or.inl (tw29 hw)) Via.refl e497 F503 (g := (mkF m 13 #[vr a, vd x, ss, vr a388, vi (5 : Int32)] [(.ref a), (.int (5 : Int32))])) rfl rfl (hb hby d_prog_72_method_2_code_13)
  have k513 : own_G p e below E0 T509 (mkF m 16 #[vr a, vd x, ss, vr a388, vi (5 : Int32)] [(.int (4 : Int32)), (.int (5 : Int32))]) := fun tQ kk => k508 tQ (st512 _ kk)
  clear k508 st512
  have k514 : own_G p e below E0 T509 (mkF m 44 #[vr a, vd x, ss, vr a388, vi (5 : Int32)] [(.ref a388)]) := by
    intro tQ kk
    refine k513 tQ ?_
    refine XS.icmpYes X510.here hx rfl (pc0 := 16) (pc' := 43) rfl (hb hby d_prog_72_method_2_code_16) rfl (own_ic_gtY (by decide)) (by decide) (by decide) ?_
    refine XS.aloadN X510.here hx rfl (hb hby d_prog_72_method_2_code_43) rfl rfl ?_
    exact kk
  clear k513
  obtain ⟨fs, hr, hrun, hended, hW, hsame⟩ := X510.leave (v := some (.ref a388)) (fun h => by rw [Bd.returns] at h; cases h)
  have hrun0 := k514 _ (retOut X510 hx Bd.returns (t := (.array .double)) rfl (Or.inr (Or.inr (Or.inr (Or.inr ⟨rfl, rfl, rfl⟩)))) (hb hby d_prog_72_method_2_code_44) hr)
  subst hE0
  refine ⟨_, _, hrun0, hrun, hended, _, _, rfl, ?_, ⟨_, rfl⟩, hW, hsame.mono (by decide) (by decide)⟩
  show QrmV4 Z a x z h0 n0 _ T509.heap _
  rw [e511]
  exact ⟨a388, rfl, N501, K506, F507⟩
def QrmV5 (Z : State) (a : Addr) (x : UInt64) (z : UInt64) (h0 : Heap) (n0 : Nat) (vQ : Option Value) (hQ : Heap) (LQ : List Loc) : Prop := ∃ (r : Addr), vQ = some (.ref r) ∧ Fr n0 LQ ∧ Keep h0 hQ [] ∧ (own_A Z hQ r .double [(.double (FP.dadd x (FP.dmul (FP.i2d (0 : Int32)) z))), (.double (FP.dadd x (FP.dmul (FP.i2d (1 : Int32)) z))), (.double (FP.dadd x (FP.dmul (FP.i2d (2 : Int32)) z))), (.double (FP.dadd x (FP.dmul (FP.i2d (3 : Int32)) z))), (.double (FP.dadd x (FP.dmul (FP.i2d (4 : Int32)) z)))])
theorem ef_rmV5 (m : MethodId) (a : Addr) (x : UInt64) (z : UInt64) : entryFrame m #[(.ref a), (.double x)] 5 = mkF m 0 #[vr a, vd x, ss, uu, uu] [] := by first | (simp [entryFrame, mkF, argsToLocals, Value.category]; done) | rfl
set_option maxRecDepth 65536 in
set_option maxHeartbeats 40000000 in
theorem rmV5 (l : Launch) (Z : State) (a0 : Array Value) (hw : ∀ d ∈ tables_1, d.before a0 Z = true) (ws : List Jvm.Cond) (a : Addr) (x : UInt64) (z : UInt64) (h0 : Heap) (n0 : Nat) (Z0 : n0 ≤ h0.size) (F1 : fd5 Z h0 a (.int (5 : Int32))) (F2 : fd6 Z h0 a (.double z)) (nn : ∀ k : Int32, 0 ≤ k.toInt → k.toInt ≤ 8 → NoNaN64 (FP.dmul (FP.i2d k) z) ∧ NoNaN64 (FP.dadd x (FP.dmul (FP.i2d k) z))) :
    MetFree l mn12 (head1 (Jvm.Cond.code mn12 prog_72_method_2_code 5 (some (.array .double)) :: ws) ({ frames := 0, cells := 1, slots := 5, locals := 0 } : Room)) (fun aA U => aA = #[(.ref a), (.double x)] ∧ Z.Warmed39 U.vm ∧ U.heap = h0) (fun _ _ _ _ _ => True) (fun _ U o U' => ∃ vR LR, o = .returned vR ∧ QrmV5 Z a x z h0 n0 vR U'.heap LR ∧ FrameEnd U o U' LR ({ frames := 0, cells := 1, slots := 5, locals := 0 } : Room).cells ({ frames := 0, cells := 1, slots := 5, locals := 0 } : Room).slots) := by
  refine MetFree.of_bodySF (plainFor_of_name pn_com_example_capwright_capwright_premise_ConstantAmountChange) hisR ?_
  intro p e s m args below meth c s₁ Bd hml0 hPre hKk
  obtain ⟨rfl, hZ, hh⟩ := hPre
  have hx := Bd.exec
  have hby := Bd.bytes
  have hml : c.maxLocals = 5 := hml0
  have hown : s.vm.findClass "com/example/capwright/capwright/premise/ConstantAmountChange" = some m.cls := findClass_of_methodNamed Bd.named
  have hnm := (name_of_methodNamed Bd.named Bd.method).1
  have X0 : Stand p l e ({ frames := 0, cells := 1, slots := 5, locals := 0 } : Room) s m #[(.ref a), (.double x)] below meth c s₁ [] 0 0 := Stand.of_body Bd
  have e0 : s₁.heap = h0 := by rw [← hh, Bd.state]; rfl
  have N0 := Fr.nil n0
  obtain ⟨E0, hE0⟩ : ∃ zE : State, zE = s₁.setTop (entryFrame m #[(.ref a), (.double x)] 5) := ⟨_, rfl⟩
  have k0 : own_G p e below E0 s₁ (mkF m 0 #[vr a, vd x, ss, uu, uu] []) := fun tz kz => hE0 ▸ castTop (ef_rmV5 m a x z) kz
  have K0 : Keep h0 h0 [] := Keep.refl _ _
  have k515 : own_G p e below E0 s₁ (mkF m 1 #[vr a, vd x, ss, uu, uu] [(.ref a)]) := by
    intro tQ kk
    refine k0 tQ ?_
    refine XS.aloadN X0.here hx rfl (hb hby d_prog_72_method_2_code_0) rfl rfl ?_
    exact kk
  clear k0
  obtain ⟨T516, X517, e518, st519⟩ := getF X0 hx hZ hown (host := "") (Or.inl (tw29 hw)) Via.refl e0 F1 (g := (mkF m 1 #[vr a, vd x, ss, uu, uu] [(.ref a)])) rfl rfl (hb hby d_prog_72_method_2_code_1)
  have k520 : own_G p e below E0 T516 (mkF m 4 #[vr a, vd x, ss, uu, uu] [(.int (5 : Int32))]) := fun tQ kk => k515 tQ (st519 _ kk)
  clear k515 st519
  obtain ⟨T521, h522, cA523, X524, e525, E526, A527, st528⟩ := newP (aty := .double) X517 hx hZ (tw38 hw) e518 (g := (mkF m 4 #[vr a, vd x, ss, uu, uu] [(.int (5 : Int32))])) rfl (hb hby d_prog_72_method_2_code_4) rfl (by decide) (cap := 5) (by decide) (by decide) (by decide) (by decide)
  obtain ⟨a529, g530⟩ : ∃ zA : Nat, zA = h0.size := ⟨_, rfl⟩
  rw [← g530] at A527 st528
  have n531 : a ≠ a529 := own_lt_ne F1.lt g530
  have n532 : a529 ≠ a := fun q => n531 q.symm
  have nw533 : h0.size ≤ a529 := own_ge_of K0.1 g530
  have ge534 : n0 ≤ a529 := own_ge_of Z0 g530
  have Z535 : n0 ≤ h522.size := Nat.le_trans Z0 E526.1
  have F536 : fd5 Z h522 a (.int (5 : Int32)) := F1.ext E526
  clear F1
  have F537 : fd6 Z h522 a (.double z) := F2.ext E526
  clear F2
  have K538 : Keep h0 h522 [] := K0.ext E526
  have F539 : own_A Z h522 a529 .double [(.double (0 : UInt64)), (.double (0 : UInt64)), (.double (0 : UInt64)), (.double (0 : UInt64)), (.double (0 : UInt64))] := own_A.new A527
  have k540 : own_G p e below E0 T521 (mkF m 6 #[vr a, vd x, ss, uu, uu] [(.ref a529)]) := fun tQ kk => k520 tQ (st528 _ kk)
  clear k520 st528
  have k541 : own_G p e below E0 T521 (mkF m 13 #[vr a, vd x, ss, vr a529, vi (1 : Int32)] [(.ref a), (.int (1 : Int32))]) := by
    intro tQ kk
    refine k540 tQ ?_
    refine XS.astoreN X524.here hx rfl (hb hby d_prog_72_method_2_code_6) rfl rfl (l' := #[vr a, vd x, ss, vr a529, uu]) rfl ?_
    refine XS.iconst X524.here hx rfl (hb hby d_prog_72_method_2_code_7) ?_
    refine XS.istore X524.here hx rfl (hb hby d_prog_72_method_2_code_8) rfl (l' := #[vr a, vd x, ss, vr a529, vi (1 : Int32)]) rfl ?_
    refine XS.iload X524.here hx rfl (hb hby d_prog_72_method_2_code_10) rfl ?_
    show Steps p.tables e below (T521.setTop (mkF m 12 #[vr a, vd x, ss, vr a529, vi (1 : Int32)] [(.int (1 : Int32))])) tQ
    refine XS.aloadN X524.here hx rfl (hb hby d_prog_72_method_2_code_12) rfl rfl ?_
    exact kk
  clear k540
  obtain ⟨T542, X543, e544, st545⟩ := getF X524 hx hZ hown (host := "") (Or.inl (tw29 hw)) Via.refl e525 F536 (g := (mkF m 13 #[vr a, vd x, ss, vr a529, vi (1 : Int32)] [(.ref a), (.int (1 : Int32))])) rfl rfl (hb hby d_prog_72_method_2_code_13)
  have k546 : own_G p e below E0 T542 (mkF m 16 #[vr a, vd x, ss, vr a529, vi (1 : Int32)] [(.int (5 : Int32)), (.int (1 : Int32))]) := fun tQ kk => k541 tQ (st545 _ kk)
  clear k541 st545
  have k547 : own_G p e below E0 T542 (mkF m 31 #[vr a, vd x, ss, vr a529, vi (1 : Int32)] [(.ref a), (.double (FP.i2d (0 : Int32))), (.double x), (.int (0 : Int32)), (.ref a529)]) := by
    intro tQ kk
    refine k546 tQ ?_
    refine XS.icmpNo X543.here hx rfl (hb hby d_prog_72_method_2_code_16) rfl (own_ic_gtN (by decide)) ?_
    refine XS.aloadN X543.here hx rfl (hb hby d_prog_72_method_2_code_19) rfl rfl ?_
    refine XS.iload X543.here hx rfl (hb hby d_prog_72_method_2_code_20) rfl ?_
    refine XS.iconst X543.here hx rfl (hb hby d_prog_72_method_2_code_22) ?_
    show Steps p.tables e below (T542.setTop (mkF m 23 #[vr a, vd x, ss, vr a529, vi (1 : Int32)] [(.int (1 : Int32)), (.int (1 : Int32)), (.ref a529)])) tQ
    refine XS.isub X543.here hx rfl (hb hby d_prog_72_method_2_code_23) rfl ?_
    refine XS.dloadN X543.here hx rfl (hb hby d_prog_72_method_2_code_24) rfl ?_
    refine XS.iload X543.here hx rfl (hb hby d_prog_72_method_2_code_25) rfl ?_
    refine XS.iconst X543.here hx rfl (hb hby d_prog_72_method_2_code_27) ?_
    show Steps p.tables e below (T542.setTop (mkF m 28 #[vr a, vd x, ss, vr a529, vi (1 : Int32)] [(.int (1 : Int32)), (.int (1 : Int32)), (.double x), (.int (0 : Int32)), (.ref a529)])) tQ
    refine XS.isub X543.here hx rfl (hb hby d_prog_72_method_2_code_28) rfl ?_
    refine XS.i2dS X543.here hx rfl (hb hby d_prog_72_method_2_code_29) rfl rfl ?_
    refine XS.aloadN X543.here hx rfl (hb hby d_prog_72_method_2_code_30) rfl rfl ?_
    exact kk
  clear k546
  obtain ⟨T548, X549, e550, st551⟩ := getF X543 hx hZ hown (host := "") (Or.inl (tw31 hw)) Via.refl e544 F537 (g := (mkF m 31 #[vr a, vd x, ss, vr a529, vi (1 : Int32)] [(.ref a), (.double (FP.i2d (0 : Int32))), (.double x), (.int (0 : Int32)), (.ref a529)])) rfl rfl (hb hby d_prog_72_method_2_code_31)
  have k552 : own_G p e below E0 T548 (mkF m 34 #[vr a, vd x, ss, vr a529, vi (1 : Int32)] [(.double z), (.double (FP.i2d (0 : Int32))), (.double x), (.int (0 : Int32)), (.ref a529)]) := fun tQ kk => k547 tQ (st551 _ kk)
  clear k547 st551
  have k553 : own_G p e below E0 T548 (mkF m 36 #[vr a, vd x, ss, vr a529, vi (1 : Int32)] [(.double (FP.dadd x (FP.dmul (FP.i2d (0 : Int32)) z))), (.int (0 : Int32)), (.ref a529)]) := by
    intro tQ kk
    refine k552 tQ ?_
    refine XS.dmulS X549.here hx rfl (hb hby d_prog_72_method_2_code_34) rfl (nn (0 : Int32) (by decide) (by decide)).1 rfl ?_
    refine XS.daddS X549.here hx rfl (hb hby d_prog_72_method_2_code_35) rfl (nn (0 : Int32) (by decide) (by decide)).2 rfl ?_
    exact kk
  clear k552
  obtain ⟨T554, h555, X556, e557, W558, F559, st560⟩ := own_A.dst X549 hx hZ e550 F539 (j := (0 : Int32)) (by decide) rfl (g := (mkF m 36 #[vr a, vd x, ss, vr a529, vi (1 : Int32)] [(.double (FP.dadd x (FP.dmul (FP.i2d (0 : Int32)) z))), (.int (0 : Int32)), (.ref a529)])) rfl rfl (hb hby d_prog_72_method_2_code_36)
  have N561 := Fr.snoc X556 N0 ge534
  have k562 : own_G p e below E0 T554 (mkF m 37 #[vr a, vd x, ss, vr a529, vi (1 : Int32)] []) := fun tQ kk => k553 tQ (st560 _ kk)
  clear k553 st560
  have F563 : fd5 Z h555 a (.int (5 : Int32)) := F536.other W558 (Or.inl n531)
  clear F536
  have F564 : fd6 Z h555 a (.double z) := F537.other W558 (Or.inl n531)
  clear F537
  have Z565 : n0 ≤ h555.size := by rw [W558.size]; exact Z535
  have K566 : Keep h0 h555 [] := K538.wr W558 (Or.inr nw533)
  have F567 : own_A Z h555 a529 .double [(.double (FP.dadd x (FP.dmul (FP.i2d (0 : Int32)) z))), (.double (0 : UInt64)), (.double (0 : UInt64)), (.double (0 : UInt64)), (.double (0 : UInt64))] := F559
  have k568 : own_G p e below E0 T554 (mkF m 13 #[vr a, vd x, ss, vr a529, vi (2 : Int32)] [(.ref a), (.int (2 : Int32))]) := by
    intro tQ kk
    refine k562 tQ ?_
    refine XS.iinc X556.here hx rfl (hb hby d_prog_72_method_2_code_37) rfl (l' := #[vr a, vd x, ss, vr a529, vi (2 : Int32)]) rfl ?_
    refine XS.goto X556.here hx rfl (pc0 := 40) (pc' := 10) rfl (hb hby d_prog_72_method_2_code_40) (by decide) (by decide) ?_
    refine XS.iload X556.here hx rfl (hb hby d_prog_72_method_2_code_10) rfl ?_
    refine XS.aloadN X556.here hx rfl (hb hby d_prog_72_method_2_code_12) rfl rfl ?_
    exact kk
  clear k562
  obtain ⟨T569, X570, e571, st572⟩ := getF X556 hx hZ hown (host := "") (Or.inl (tw29 hw)) Via.refl e557 F563 (g := (mkF m 13 #[vr a, vd x, ss, vr a529, vi (2 : Int32)] [(.ref a), (.int (2 : Int32))])) rfl rfl (hb hby d_prog_72_method_2_code_13)
  have k573 : own_G p e below E0 T569 (mkF m 16 #[vr a, vd x, ss, vr a529, vi (2 : Int32)] [(.int (5 : Int32)), (.int (2 : Int32))]) := fun tQ kk => k568 tQ (st572 _ kk)
  clear k568 st572
  have k574 : own_G p e below E0 T569 (mkF m 31 #[vr a, vd x, ss, vr a529, vi (2 : Int32)] [(.ref a), (.double (FP.i2d (1 : Int32))), (.double x), (.int (1 : Int32)), (.ref a529)]) := by
    intro tQ kk
    refine k573 tQ ?_
    refine XS.icmpNo X570.here hx rfl (hb hby d_prog_72_method_2_code_16) rfl (own_ic_gtN (by decide)) ?_
    refine XS.aloadN X570.here hx rfl (hb hby d_prog_72_method_2_code_19) rfl rfl ?_
    refine XS.iload X570.here hx rfl (hb hby d_prog_72_method_2_code_20) rfl ?_
    refine XS.iconst X570.here hx rfl (hb hby d_prog_72_method_2_code_22) ?_
    show Steps p.tables e below (T569.setTop (mkF m 23 #[vr a, vd x, ss, vr a529, vi (2 : Int32)] [(.int (1 : Int32)), (.int (2 : Int32)), (.ref a529)])) tQ
    refine XS.isub X570.here hx rfl (hb hby d_prog_72_method_2_code_23) rfl ?_
    refine XS.dloadN X570.here hx rfl (hb hby d_prog_72_method_2_code_24) rfl ?_
    refine XS.iload X570.here hx rfl (hb hby d_prog_72_method_2_code_25) rfl ?_
    refine XS.iconst X570.here hx rfl (hb hby d_prog_72_method_2_code_27) ?_
    show Steps p.tables e below (T569.setTop (mkF m 28 #[vr a, vd x, ss, vr a529, vi (2 : Int32)] [(.int (1 : Int32)), (.int (2 : Int32)), (.double x), (.int (1 : Int32)), (.ref a529)])) tQ
    refine XS.isub X570.here hx rfl (hb hby d_prog_72_method_2_code_28) rfl ?_
    refine XS.i2dS X570.here hx rfl (hb hby d_prog_72_method_2_code_29) rfl rfl ?_
    refine XS.aloadN X570.here hx rfl (hb hby d_prog_72_method_2_code_30) rfl rfl ?_
    exact kk
  clear k573
  obtain ⟨T575, X576, e577, st578⟩ := getF X570 hx hZ hown (host := "") (Or.inl (tw31 hw)) Via.refl e571 F564 (g := (mkF m 31 #[vr a, vd x, ss, vr a529, vi (2 : Int32)] [(.ref a), (.double (FP.i2d (1 : Int32))), (.double x), (.int (1 : Int32)), (.ref a529)])) rfl rfl (hb hby d_prog_72_method_2_code_31)
  have k579 : own_G p e below E0 T575 (mkF m 34 #[vr a, vd x, ss, vr a529, vi (2 : Int32)] [(.double z), (.double (FP.i2d (1 : Int32))), (.double x), (.int (1 : Int32)), (.ref a529)]) := fun tQ kk => k574 tQ (st578 _ kk)
  clear k574 st578
  have k580 : own_G p e below E0 T575 (mkF m 36 #[vr a, vd x, ss, vr a529, vi (2 : Int32)] [(.double (FP.dadd x (FP.dmul (FP.i2d (1 : Int32)) z))), (.int (1 : Int32)), (.ref a529)]) := by
    intro tQ kk
    refine k579 tQ ?_
    refine XS.dmulS X576.here hx rfl (hb hby d_prog_72_method_2_code_34) rfl (nn (1 : Int32) (by decide) (by decide)).1 rfl ?_
    refine XS.daddS X576.here hx rfl (hb hby d_prog_72_method_2_code_35) rfl (nn (1 : Int32) (by decide) (by decide)).2 rfl ?_
    exact kk
  clear k579
  obtain ⟨T581, h582, X583, e584, W585, F586, st587⟩ := own_A.dst X576 hx hZ e577 F567 (j := (1 : Int32)) (by decide) rfl (g := (mkF m 36 #[vr a, vd x, ss, vr a529, vi (2 : Int32)] [(.double (FP.dadd x (FP.dmul (FP.i2d (1 : Int32)) z))), (.int (1 : Int32)), (.ref a529)])) rfl rfl (hb hby d_prog_72_method_2_code_36)
  have N588 := Fr.snoc X583 N561 ge534
  have k589 : own_G p e below E0 T581 (mkF m 37 #[vr a, vd x, ss, vr a529, vi (2 : Int32)] []) := fun tQ kk => k580 tQ (st587 _ kk)
  clear k580 st587
  have F590 : fd5 Z h582 a (.int (5 : Int32)) := F563.other W585 (Or.inl n531)
  clear F563
  have F591 : fd6 Z h582 a (.double z) := F564.other W585 (Or.inl n531)
  clear F564
  have Z592 : n0 ≤ h582.size := by rw [W585.size]; exact Z565
  have K593 : Keep h0 h582 [] := K566.wr W585 (Or.inr nw533)
  have F594 : own_A Z h582 a529 .double [(.double (FP.dadd x (FP.dmul (FP.i2d (0 : Int32)) z))), (.double (FP.dadd x (FP.dmul (FP.i2d (1 : Int32)) z))), (.double (0 : UInt64)), (.double (0 : UInt64)), (.double (0 : UInt64))] := F586
  have k595 : own_G p e below E0 T581 (mkF m 13 #[vr a, vd x, ss, vr a529, vi (3 : Int32)] [(.ref a), (.int (3 : Int32))]) := by
    intro tQ kk
    refine k589 tQ ?_
    refine XS.iinc X583.here hx rfl (hb hby d_prog_72_method_2_code_37) rfl (l' := #[vr a, vd x, ss, vr a529, vi (3 : Int32)]) rfl ?_
    refine XS.goto X583.here hx rfl (pc0 := 40) (pc' := 10) rfl (hb hby d_prog_72_method_2_code_40) (by decide) (by decide) ?_
    refine XS.iload X583.here hx rfl (hb hby d_prog_72_method_2_code_10) rfl ?_
    refine XS.aloadN X583.here hx rfl (hb hby d_prog_72_method_2_code_12) rfl rfl ?_
    exact kk
  clear k589
  obtain ⟨T596, X597, e598, st599⟩ := getF X583 hx hZ hown (host := "") (Or.inl (tw29 hw)) Via.refl e584 F590 (g := (mkF m 13 #[vr a, vd x, ss, vr a529, vi (3 : Int32)] [(.ref a), (.int (3 : Int32))])) rfl rfl (hb hby d_prog_72_method_2_code_13)
  have k600 : own_G p e below E0 T596 (mkF m 16 #[vr a, vd x, ss, vr a529, vi (3 : Int32)] [(.int (5 : Int32)), (.int (3 : Int32))]) := fun tQ kk => k595 tQ (st599 _ kk)
  clear k595 st599
  have k601 : own_G p e below E0 T596 (mkF m 31 #[vr a, vd x, ss, vr a529, vi (3 : Int32)] [(.ref a), (.double (FP.i2d (2 : Int32))), (.double x), (.int (2 : Int32)), (.ref a529)]) := by
    intro tQ kk
    refine k600 tQ ?_
    refine XS.icmpNo X597.here hx rfl (hb hby d_prog_72_method_2_code_16) rfl (own_ic_gtN (by decide)) ?_
    refine XS.aloadN X597.here hx rfl (hb hby d_prog_72_method_2_code_19) rfl rfl ?_
    refine XS.iload X597.here hx rfl (hb hby d_prog_72_method_2_code_20) rfl ?_
    refine XS.iconst X597.here hx rfl (hb hby d_prog_72_method_2_code_22) ?_
    show Steps p.tables e below (T596.setTop (mkF m 23 #[vr a, vd x, ss, vr a529, vi (3 : Int32)] [(.int (1 : Int32)), (.int (3 : Int32)), (.ref a529)])) tQ
    refine XS.isub X597.here hx rfl (hb hby d_prog_72_method_2_code_23) rfl ?_
    refine XS.dloadN X597.here hx rfl (hb hby d_prog_72_method_2_code_24) rfl ?_
    refine XS.iload X597.here hx rfl (hb hby d_prog_72_method_2_code_25) rfl ?_
    refine XS.iconst X597.here hx rfl (hb hby d_prog_72_method_2_code_27) ?_
    show Steps p.tables e below (T596.setTop (mkF m 28 #[vr a, vd x, ss, vr a529, vi (3 : Int32)] [(.int (1 : Int32)), (.int (3 : Int32)), (.double x), (.int (2 : Int32)), (.ref a529)])) tQ
    refine XS.isub X597.here hx rfl (hb hby d_prog_72_method_2_code_28) rfl ?_
    refine XS.i2dS X597.here hx rfl (hb hby d_prog_72_method_2_code_29) rfl rfl ?_
    refine XS.aloadN X597.here hx rfl (hb hby d_prog_72_method_2_code_30) rfl rfl ?_
    exact kk
  clear k600
  obtain ⟨T602, X603, e604, st605⟩ := getF X597 hx hZ hown (host := "") (Or.inl (tw31 hw)) Via.refl e598 F591 (g := (mkF m 31 #[vr a, vd x, ss, vr a529, vi (3 : Int32)] [(.ref a), (.double (FP.i2d (2 : Int32))), (.double x), (.int (2 : Int32)), (.ref a529)])) rfl rfl (hb hby d_prog_72_method_2_code_31)
  have k606 : own_G p e below E0 T602 (mkF m 34 #[vr a, vd x, ss, vr a529, vi (3 : Int32)] [(.double z), (.double (FP.i2d (2 : Int32))), (.double x), (.int (2 : Int32)), (.ref a529)]) := fun tQ kk => k601 tQ (st605 _ kk)
  clear k601 st605
  have k607 : own_G p e below E0 T602 (mkF m 36 #[vr a, vd x, ss, vr a529, vi (3 : Int32)] [(.double (FP.dadd x (FP.dmul (FP.i2d (2 : Int32)) z))), (.int (2 : Int32)), (.ref a529)]) := by
    intro tQ kk
    refine k606 tQ ?_
    refine XS.dmulS X603.here hx rfl (hb hby d_prog_72_method_2_code_34) rfl (nn (2 : Int32) (by decide) (by decide)).1 rfl ?_
    refine XS.daddS X603.here hx rfl (hb hby d_prog_72_method_2_code_35) rfl (nn (2 : Int32) (by decide) (by decide)).2 rfl ?_
    exact kk
  clear k606
  obtain ⟨T608, h609, X610, e611, W612, F613, st614⟩ := own_A.dst X603 hx hZ e604 F594 (j := (2 : Int32)) (by decide) rfl (g := (mkF m 36 #[vr a, vd x, ss, vr a529, vi (3 : Int32)] [(.double (FP.dadd x (FP.dmul (FP.i2d (2 : Int32)) z))), (.int (2 : Int32)), (.ref a529)])) rfl rfl (hb hby d_prog_72_method_2_code_36)
  have N615 := Fr.snoc X610 N588 ge534
  have k616 : own_G p e below E0 T608 (mkF m 37 #[vr a, vd x, ss, vr a529, vi (3 : Int32)] []) := fun tQ kk => k607 tQ (st614 _ kk)
  clear k607 st614
  have F617 : fd5 Z h609 a (.int (5 : Int32)) := F590.other W612 (Or.inl n531)
  clear F590
  have F618 : fd6 Z h609 a (.double z) := F591.other W612 (Or.inl n531)
  clear F591
  have Z619 : n0 ≤ h609.size := by rw [W612.size]; exact Z592
  have K620 : Keep h0 h609 [] := K593.wr W612 (Or.inr nw533)
  have F621 : own_A Z h609 a529 .double [(.double (FP.dadd x (FP.dmul (FP.i2d (0 : Int32)) z))), (.double (FP.dadd x (FP.dmul (FP.i2d (1 : Int32)) z))), (.double (FP.dadd x (FP.dmul (FP.i2d (2 : Int32)) z))), (.double (0 : UInt64)), (.double (0 : UInt64))] := F613
  have k622 : own_G p e below E0 T608 (mkF m 13 #[vr a, vd x, ss, vr a529, vi (4 : Int32)] [(.ref a), (.int (4 : Int32))]) := by
    intro tQ kk
    refine k616 tQ ?_
    refine XS.iinc X610.here hx rfl (hb hby d_prog_72_method_2_code_37) rfl (l' := #[vr a, vd x, ss, vr a529, vi (4 : Int32)]) rfl ?_
    refine XS.goto X610.here hx rfl (pc0 := 40) (pc' := 10) rfl (hb hby d_prog_72_method_2_code_40) (by decide) (by decide) ?_
    refine XS.iload X610.here hx rfl (hb hby d_prog_72_method_2_code_10) rfl ?_
    refine XS.aloadN X610.here hx rfl (hb hby d_prog_72_method_2_code_12) rfl rfl ?_
    exact kk
  clear k616
  obtain ⟨T623, X624, e625, st626⟩ := getF X610 hx hZ hown (host := "") (Or.inl (tw29 hw)) Via.refl e611 F617 (g := (mkF m 13 #[vr a, vd x, ss, vr a529, vi (4 : Int32)] [(.ref a), (.int (4 : Int32))])) rfl rfl (hb hby d_prog_72_method_2_code_13)
  have k627 : own_G p e below E0 T623 (mkF m 16 #[vr a, vd x, ss, vr a529, vi (4 : Int32)] [(.int (5 : Int32)), (.int (4 : Int32))]) := fun tQ kk => k622 tQ (st626 _ kk)
  clear k622 st626
  have k628 : own_G p e below E0 T623 (mkF m 31 #[vr a, vd x, ss, vr a529, vi (4 : Int32)] [(.ref a), (.double (FP.i2d (3 : Int32))), (.double x), (.int (3 : Int32)), (.ref a529)]) := by
    intro tQ kk
    refine k627 tQ ?_
    refine XS.icmpNo X624.here hx rfl (hb hby d_prog_72_method_2_code_16) rfl (own_ic_gtN (by decide)) ?_
    refine XS.aloadN X624.here hx rfl (hb hby d_prog_72_method_2_code_19) rfl rfl ?_
    refine XS.iload X624.here hx rfl (hb hby d_prog_72_method_2_code_20) rfl ?_
    refine XS.iconst X624.here hx rfl (hb hby d_prog_72_method_2_code_22) ?_
    show Steps p.tables e below (T623.setTop (mkF m 23 #[vr a, vd x, ss, vr a529, vi (4 : Int32)] [(.int (1 : Int32)), (.int (4 : Int32)), (.ref a529)])) tQ
    refine XS.isub X624.here hx rfl (hb hby d_prog_72_method_2_code_23) rfl ?_
    refine XS.dloadN X624.here hx rfl (hb hby d_prog_72_method_2_code_24) rfl ?_
    refine XS.iload X624.here hx rfl (hb hby d_prog_72_method_2_code_25) rfl ?_
    refine XS.iconst X624.here hx rfl (hb hby d_prog_72_method_2_code_27) ?_
    show Steps p.tables e below (T623.setTop (mkF m 28 #[vr a, vd x, ss, vr a529, vi (4 : Int32)] [(.int (1 : Int32)), (.int (4 : Int32)), (.double x), (.int (3 : Int32)), (.ref a529)])) tQ
    refine XS.isub X624.here hx rfl (hb hby d_prog_72_method_2_code_28) rfl ?_
    refine XS.i2dS X624.here hx rfl (hb hby d_prog_72_method_2_code_29) rfl rfl ?_
    refine XS.aloadN X624.here hx rfl (hb hby d_prog_72_method_2_code_30) rfl rfl ?_
    exact kk
  clear k627
  obtain ⟨T629, X630, e631, st632⟩ := getF X624 hx hZ hown (host := "") (Or.inl (tw31 hw)) Via.refl e625 F618 (g := (mkF m 31 #[vr a, vd x, ss, vr a529, vi (4 : Int32)] [(.ref a), (.double (FP.i2d (3 : Int32))), (.double x), (.int (3 : Int32)), (.ref a529)])) rfl rfl (hb hby d_prog_72_method_2_code_31)
  have k633 : own_G p e below E0 T629 (mkF m 34 #[vr a, vd x, ss, vr a529, vi (4 : Int32)] [(.double z), (.double (FP.i2d (3 : Int32))), (.double x), (.int (3 : Int32)), (.ref a529)]) := fun tQ kk => k628 tQ (st632 _ kk)
  clear k628 st632
  have k634 : own_G p e below E0 T629 (mkF m 36 #[vr a, vd x, ss, vr a529, vi (4 : Int32)] [(.double (FP.dadd x (FP.dmul (FP.i2d (3 : Int32)) z))), (.int (3 : Int32)), (.ref a529)]) := by
    intro tQ kk
    refine k633 tQ ?_
    refine XS.dmulS X630.here hx rfl (hb hby d_prog_72_method_2_code_34) rfl (nn (3 : Int32) (by decide) (by decide)).1 rfl ?_
    refine XS.daddS X630.here hx rfl (hb hby d_prog_72_method_2_code_35) rfl (nn (3 : Int32) (by decide) (by decide)).2 rfl ?_
    exact kk
  clear k633
  obtain ⟨T635, h636, X637, e638, W639, F640, st641⟩ := own_A.dst X630 hx hZ e631 F621 (j := (3 : Int32)) (by decide) rfl (g := (mkF m 36 #[vr a, vd x, ss, vr a529, vi (4 : Int32)] [(.double (FP.dadd x (FP.dmul (FP.i2d (3 : Int32)) z))), (.int (3 : Int32)), (.ref a529)])) rfl rfl (hb hby d_prog_72_method_2_code_36)
  have N642 := Fr.snoc X637 N615 ge534
  have k643 : own_G p e below E0 T635 (mkF m 37 #[vr a, vd x, ss, vr a529, vi (4 : Int32)] []) := fun tQ kk => k634 tQ (st641 _ kk)
  clear k634 st641
  have F644 : fd5 Z h636 a (.int (5 : Int32)) := F617.other W639 (Or.inl n531)
  clear F617
  have F645 : fd6 Z h636 a (.double z) := F618.other W639 (Or.inl n531)
  clear F618
  have Z646 : n0 ≤ h636.size := by rw [W639.size]; exact Z619
  have K647 : Keep h0 h636 [] := K620.wr W639 (Or.inr nw533)
  have F648 : own_A Z h636 a529 .double [(.double (FP.dadd x (FP.dmul (FP.i2d (0 : Int32)) z))), (.double (FP.dadd x (FP.dmul (FP.i2d (1 : Int32)) z))), (.double (FP.dadd x (FP.dmul (FP.i2d (2 : Int32)) z))), (.double (FP.dadd x (FP.dmul (FP.i2d (3 : Int32)) z))), (.double (0 : UInt64))] := F640
  have k649 : own_G p e below E0 T635 (mkF m 13 #[vr a, vd x, ss, vr a529, vi (5 : Int32)] [(.ref a), (.int (5 : Int32))]) := by
    intro tQ kk
    refine k643 tQ ?_
    refine XS.iinc X637.here hx rfl (hb hby d_prog_72_method_2_code_37) rfl (l' := #[vr a, vd x, ss, vr a529, vi (5 : Int32)]) rfl ?_
    refine XS.goto X637.here hx rfl (pc0 := 40) (pc' := 10) rfl (hb hby d_prog_72_method_2_code_40) (by decide) (by decide) ?_
    refine XS.iload X637.here hx rfl (hb hby d_prog_72_method_2_code_10) rfl ?_
    refine XS.aloadN X637.here hx rfl (hb hby d_prog_72_method_2_code_12) rfl rfl ?_
    exact kk
  clear k643
  obtain ⟨T650, X651, e652, st653⟩ := getF X637 hx hZ hown (host := "") (Or.inl (tw29 hw)) Via.refl e638 F644 (g := (mkF m 13 #[vr a, vd x, ss, vr a529, vi (5 : Int32)] [(.ref a), (.int (5 : Int32))])) rfl rfl (hb hby d_prog_72_method_2_code_13)
  have k654 : own_G p e below E0 T650 (mkF m 16 #[vr a, vd x, ss, vr a529, vi (5 : Int32)] [(.int (5 : Int32)), (.int (5 : Int32))]) := fun tQ kk => k649 tQ (st653 _ kk)
  clear k649 st653
  have k655 : own_G p e below E0 T650 (mkF m 31 #[vr a, vd x, ss, vr a529, vi (5 : Int32)] [(.ref a), (.double (FP.i2d (4 : Int32))), (.double x), (.int (4 : Int32)), (.ref a529)]) := by
    intro tQ kk
    refine k654 tQ ?_
    refine XS.icmpNo X651.here hx rfl (hb hby d_prog_72_method_2_code_16) rfl (own_ic_gtN (by decide)) ?_
    refine XS.aloadN X651.here hx rfl (hb hby d_prog_72_method_2_code_19) rfl rfl ?_
    refine XS.iload X651.here hx rfl (hb hby d_prog_72_method_2_code_20) rfl ?_
    refine XS.iconst X651.here hx rfl (hb hby d_prog_72_method_2_code_22) ?_
    show Steps p.tables e below (T650.setTop (mkF m 23 #[vr a, vd x, ss, vr a529, vi (5 : Int32)] [(.int (1 : Int32)), (.int (5 : Int32)), (.ref a529)])) tQ
    refine XS.isub X651.here hx rfl (hb hby d_prog_72_method_2_code_23) rfl ?_
    refine XS.dloadN X651.here hx rfl (hb hby d_prog_72_method_2_code_24) rfl ?_
    refine XS.iload X651.here hx rfl (hb hby d_prog_72_method_2_code_25) rfl ?_
    refine XS.iconst X651.here hx rfl (hb hby d_prog_72_method_2_code_27) ?_
    show Steps p.tables e below (T650.setTop (mkF m 28 #[vr a, vd x, ss, vr a529, vi (5 : Int32)] [(.int (1 : Int32)), (.int (5 : Int32)), (.double x), (.int (4 : Int32)), (.ref a529)])) tQ
    refine XS.isub X651.here hx rfl (hb hby d_prog_72_method_2_code_28) rfl ?_
    refine XS.i2dS X651.here hx rfl (hb hby d_prog_72_method_2_code_29) rfl rfl ?_
    refine XS.aloadN X651.here hx rfl (hb hby d_prog_72_method_2_code_30) rfl rfl ?_
    exact kk
  clear k654
  obtain ⟨T656, X657, e658, st659⟩ := getF X651 hx hZ hown (host := "") (Or.inl (tw31 hw)) Via.refl e652 F645 (g := (mkF m 31 #[vr a, vd x, ss, vr a529, vi (5 : Int32)] [(.ref a), (.double (FP.i2d (4 : Int32))), (.double x), (.int (4 : Int32)), (.ref a529)])) rfl rfl (hb hby d_prog_72_method_2_code_31)
  have k660 : own_G p e below E0 T656 (mkF m 34 #[vr a, vd x, ss, vr a529, vi (5 : Int32)] [(.double z), (.double (FP.i2d (4 : Int32))), (.double x), (.int (4 : Int32)), (.ref a529)]) := fun tQ kk => k655 tQ (st659 _ kk)
  clear k655 st659
  have k661 : own_G p e below E0 T656 (mkF m 36 #[vr a, vd x, ss, vr a529, vi (5 : Int32)] [(.double (FP.dadd x (FP.dmul (FP.i2d (4 : Int32)) z))), (.int (4 : Int32)), (.ref a529)]) := by
    intro tQ kk
    refine k660 tQ ?_
    refine XS.dmulS X657.here hx rfl (hb hby d_prog_72_method_2_code_34) rfl (nn (4 : Int32) (by decide) (by decide)).1 rfl ?_
    refine XS.daddS X657.here hx rfl (hb hby d_prog_72_method_2_code_35) rfl (nn (4 : Int32) (by decide) (by decide)).2 rfl ?_
    exact kk
  clear k660
  obtain ⟨T662, h663, X664, e665, W666, F667, st668⟩ := own_A.dst X657 hx hZ e658 F648 (j := (4 : Int32)) (by decide) rfl (g := (mkF m 36 #[vr a, vd x, ss, vr a529, vi (5 : Int32)] [(.double (FP.dadd x (FP.dmul (FP.i2d (4 : Int32)) z))), (.int (4 : Int32)), (.ref a529)])) rfl rfl (hb hby d_prog_72_method_2_code_36)
  have N669 := Fr.snoc X664 N642 ge534
  have k670 : own_G p e below E0 T662 (mkF m 37 #[vr a, vd x, ss, vr a529, vi (5 : Int32)] []) := fun tQ kk => k661 tQ (st668 _ kk)
  clear k661 st668
  have F671 : fd5 Z h663 a (.int (5 : Int32)) := F644.other W666 (Or.inl n531)
  clear F644
  have F672 : fd6 Z h663 a (.double z) := F645.other W666 (Or.inl n531)
  clear F645
  have Z673 : n0 ≤ h663.size := by rw [W666.size]; exact Z646
  have K674 : Keep h0 h663 [] := K647.wr W666 (Or.inr nw533)
  have F675 : own_A Z h663 a529 .double [(.double (FP.dadd x (FP.dmul (FP.i2d (0 : Int32)) z))), (.double (FP.dadd x (FP.dmul (FP.i2d (1 : Int32)) z))), (.double (FP.dadd x (FP.dmul (FP.i2d (2 : Int32)) z))), (.double (FP.dadd x (FP.dmul (FP.i2d (3 : Int32)) z))), (.double (FP.dadd x (FP.dmul (FP.i2d (4 : Int32)) z)))] := F667
  have k676 : own_G p e below E0 T662 (mkF m 13 #[vr a, vd x, ss, vr a529, vi (6 : Int32)] [(.ref a), (.int (6 : Int32))]) := by
    intro tQ kk
    refine k670 tQ ?_
    refine XS.iinc X664.here hx rfl (hb hby d_prog_72_method_2_code_37) rfl (l' := #[vr a, vd x, ss, vr a529, vi (6 : Int32)]) rfl ?_
    refine XS.goto X664.here hx rfl (pc0 := 40) (pc' := 10) rfl (hb hby d_prog_72_method_2_code_40) (by decide) (by decide) ?_
    refine XS.iload X664.here hx rfl (hb hby d_prog_72_method_2_code_10) rfl ?_
    refine XS.aloadN X664.here hx rfl (hb hby d_prog_72_method_2_code_12) rfl rfl ?_
    exact kk
  clear k670
  obtain ⟨T677, X678, e679, st680⟩ := getF X664 hx hZ hown (host := "") (Or.inl (tw29 hw)) Via.refl e665 F671 (g := (mkF m 13 #[vr a, vd x, ss, vr a529, vi (6 : Int32)] [(.ref a), (.int (6 : Int32))])) rfl rfl (hb hby d_prog_72_method_2_code_13)
  have k681 : own_G p e below E0 T677 (mkF m 16 #[vr a, vd x, ss, vr a529, vi (6 : Int32)] [(.int (5 : Int32)), (.int (6 : Int32))]) := fun tQ kk => k676 tQ (st680 _ kk)
  clear k676 st680
  have k682 : own_G p e below E0 T677 (mkF m 44 #[vr a, vd x, ss, vr a529, vi (6 : Int32)] [(.ref a529)]) := by
    intro tQ kk
    refine k681 tQ ?_
    refine XS.icmpYes X678.here hx rfl (pc0 := 16) (pc' := 43) rfl (hb hby d_prog_72_method_2_code_16) rfl (own_ic_gtY (by decide)) (by decide) (by decide) ?_
    refine XS.aloadN X678.here hx rfl (hb hby d_prog_72_method_2_code_43) rfl rfl ?_
    exact kk
  clear k681
  obtain ⟨fs, hr, hrun, hended, hW, hsame⟩ := X678.leave (v := some (.ref a529)) (fun h => by rw [Bd.returns] at h; cases h)
  have hrun0 := k682 _ (retOut X678 hx Bd.returns (t := (.array .double)) rfl (Or.inr (Or.inr (Or.inr (Or.inr ⟨rfl, rfl, rfl⟩)))) (hb hby d_prog_72_method_2_code_44) hr)
  subst hE0
  refine ⟨_, _, hrun0, hrun, hended, _, _, rfl, ?_, ⟨_, rfl⟩, hW, hsame.mono (by decide) (by decide)⟩
  show QrmV5 Z a x z h0 n0 _ T677.heap _
  rw [e679]
  exact ⟨a529, rfl, N669, K674, F675⟩
def QrmV6 (Z : State) (a : Addr) (x : UInt64) (z : UInt64) (h0 : Heap) (n0 : Nat) (vQ : Option Value) (hQ : Heap) (LQ : List Loc) : Prop := ∃ (r : Addr), vQ = some (.ref r) ∧ Fr n0 LQ ∧ Keep h0 hQ [] ∧ (own_A Z hQ r .double [(.double (FP.dadd x (FP.dmul (FP.i2d (0 : Int32)) z))), (.double (FP.dadd x (FP.dmul (FP.i2d (1 : Int32)) z))), (.double (FP.dadd x (FP.dmul (FP.i2d (2 : Int32)) z))), (.double (FP.dadd x (FP.dmul (FP.i2d (3 : Int32)) z))), (.double (FP.dadd x (FP.dmul (FP.i2d (4 : Int32)) z))), (.double (FP.dadd x (FP.dmul (FP.i2d (5 : Int32)) z)))])
theorem ef_rmV6 (m : MethodId) (a : Addr) (x : UInt64) (z : UInt64) : entryFrame m #[(.ref a), (.double x)] 5 = mkF m 0 #[vr a, vd x, ss, uu, uu] [] := by first | (simp [entryFrame, mkF, argsToLocals, Value.category]; done) | rfl
set_option maxRecDepth 65536 in
set_option maxHeartbeats 40000000 in
theorem rmV6 (l : Launch) (Z : State) (a0 : Array Value) (hw : ∀ d ∈ tables_1, d.before a0 Z = true) (ws : List Jvm.Cond) (a : Addr) (x : UInt64) (z : UInt64) (h0 : Heap) (n0 : Nat) (Z0 : n0 ≤ h0.size) (F1 : fd5 Z h0 a (.int (6 : Int32))) (F2 : fd6 Z h0 a (.double z)) (nn : ∀ k : Int32, 0 ≤ k.toInt → k.toInt ≤ 8 → NoNaN64 (FP.dmul (FP.i2d k) z) ∧ NoNaN64 (FP.dadd x (FP.dmul (FP.i2d k) z))) :
    MetFree l mn12 (head1 (Jvm.Cond.code mn12 prog_72_method_2_code 5 (some (.array .double)) :: ws) ({ frames := 0, cells := 1, slots := 6, locals := 0 } : Room)) (fun aA U => aA = #[(.ref a), (.double x)] ∧ Z.Warmed39 U.vm ∧ U.heap = h0) (fun _ _ _ _ _ => True) (fun _ U o U' => ∃ vR LR, o = .returned vR ∧ QrmV6 Z a x z h0 n0 vR U'.heap LR ∧ FrameEnd U o U' LR ({ frames := 0, cells := 1, slots := 6, locals := 0 } : Room).cells ({ frames := 0, cells := 1, slots := 6, locals := 0 } : Room).slots) := by
  refine MetFree.of_bodySF (plainFor_of_name pn_com_example_capwright_capwright_premise_ConstantAmountChange) hisR ?_
  intro p e s m args below meth c s₁ Bd hml0 hPre hKk
  obtain ⟨rfl, hZ, hh⟩ := hPre
  have hx := Bd.exec
  have hby := Bd.bytes
  have hml : c.maxLocals = 5 := hml0
  have hown : s.vm.findClass "com/example/capwright/capwright/premise/ConstantAmountChange" = some m.cls := findClass_of_methodNamed Bd.named
  have hnm := (name_of_methodNamed Bd.named Bd.method).1
  have X0 : Stand p l e ({ frames := 0, cells := 1, slots := 6, locals := 0 } : Room) s m #[(.ref a), (.double x)] below meth c s₁ [] 0 0 := Stand.of_body Bd
  have e0 : s₁.heap = h0 := by rw [← hh, Bd.state]; rfl
  have N0 := Fr.nil n0
  obtain ⟨E0, hE0⟩ : ∃ zE : State, zE = s₁.setTop (entryFrame m #[(.ref a), (.double x)] 5) := ⟨_, rfl⟩
  have k0 : own_G p e below E0 s₁ (mkF m 0 #[vr a, vd x, ss, uu, uu] []) := fun tz kz => hE0 ▸ castTop (ef_rmV6 m a x z) kz
  have K0 : Keep h0 h0 [] := Keep.refl _ _
  have k683 : own_G p e below E0 s₁ (mkF m 1 #[vr a, vd x, ss, uu, uu] [(.ref a)]) := by
    intro tQ kk
    refine k0 tQ ?_
    refine XS.aloadN X0.here hx rfl (hb hby d_prog_72_method_2_code_0) rfl rfl ?_
    exact kk
  clear k0
  obtain ⟨T684, X685, e686, st687⟩ := getF X0 hx hZ hown (host := "") (Or.inl (tw29 hw)) Via.refl e0 F1 (g := (mkF m 1 #[vr a, vd x, ss, uu, uu] [(.ref a)])) rfl rfl (hb hby d_prog_72_method_2_code_1)
  have k688 : own_G p e below E0 T684 (mkF m 4 #[vr a, vd x, ss, uu, uu] [(.int (6 : Int32))]) := fun tQ kk => k683 tQ (st687 _ kk)
  clear k683 st687
  obtain ⟨T689, h690, cA691, X692, e693, E694, A695, st696⟩ := newP (aty := .double) X685 hx hZ (tw38 hw) e686 (g := (mkF m 4 #[vr a, vd x, ss, uu, uu] [(.int (6 : Int32))])) rfl (hb hby d_prog_72_method_2_code_4) rfl (by decide) (cap := 6) (by decide) (by decide) (by decide) (by decide)
  obtain ⟨a697, g698⟩ : ∃ zA : Nat, zA = h0.size := ⟨_, rfl⟩
  rw [← g698] at A695 st696
  have n699 : a ≠ a697 := own_lt_ne F1.lt g698
  have n700 : a697 ≠ a := fun q => n699 q.symm
  have nw701 : h0.size ≤ a697 := own_ge_of K0.1 g698
  have ge702 : n0 ≤ a697 := own_ge_of Z0 g698
  have Z703 : n0 ≤ h690.size := Nat.le_trans Z0 E694.1
  have F704 : fd5 Z h690 a (.int (6 : Int32)) := F1.ext E694
  clear F1
  have F705 : fd6 Z h690 a (.double z) := F2.ext E694
  clear F2
  have K706 : Keep h0 h690 [] := K0.ext E694
  have F707 : own_A Z h690 a697 .double [(.double (0 : UInt64)), (.double (0 : UInt64)), (.double (0 : UInt64)), (.double (0 : UInt64)), (.double (0 : UInt64)), (.double (0 : UInt64))] := own_A.new A695
  have k708 : own_G p e below E0 T689 (mkF m 6 #[vr a, vd x, ss, uu, uu] [(.ref a697)]) := fun tQ kk => k688 tQ (st696 _ kk)
  clear k688 st696
  have k709 : own_G p e below E0 T689 (mkF m 13 #[vr a, vd x, ss, vr a697, vi (1 : Int32)] [(.ref a), (.int (1 : Int32))]) := by
    intro tQ kk
    refine k708 tQ ?_
    refine XS.astoreN X692.here hx rfl (hb hby d_prog_72_method_2_code_6) rfl rfl (l' := #[vr a, vd x, ss, vr a697, uu]) rfl ?_
    refine XS.iconst X692.here hx rfl (hb hby d_prog_72_method_2_code_7) ?_
    refine XS.istore X692.here hx rfl (hb hby d_prog_72_method_2_code_8) rfl (l' := #[vr a, vd x, ss, vr a697, vi (1 : Int32)]) rfl ?_
    refine XS.iload X692.here hx rfl (hb hby d_prog_72_method_2_code_10) rfl ?_
    show Steps p.tables e below (T689.setTop (mkF m 12 #[vr a, vd x, ss, vr a697, vi (1 : Int32)] [(.int (1 : Int32))])) tQ
    refine XS.aloadN X692.here hx rfl (hb hby d_prog_72_method_2_code_12) rfl rfl ?_
    exact kk
  clear k708
  obtain ⟨T710, X711, e712, st713⟩ := getF X692 hx hZ hown (host := "") (Or.inl (tw29 hw)) Via.refl e693 F704 (g := (mkF m 13 #[vr a, vd x, ss, vr a697, vi (1 : Int32)] [(.ref a), (.int (1 : Int32))])) rfl rfl (hb hby d_prog_72_method_2_code_13)
  have k714 : own_G p e below E0 T710 (mkF m 16 #[vr a, vd x, ss, vr a697, vi (1 : Int32)] [(.int (6 : Int32)), (.int (1 : Int32))]) := fun tQ kk => k709 tQ (st713 _ kk)
  clear k709 st713
  have k715 : own_G p e below E0 T710 (mkF m 31 #[vr a, vd x, ss, vr a697, vi (1 : Int32)] [(.ref a), (.double (FP.i2d (0 : Int32))), (.double x), (.int (0 : Int32)), (.ref a697)]) := by
    intro tQ kk
    refine k714 tQ ?_
    refine XS.icmpNo X711.here hx rfl (hb hby d_prog_72_method_2_code_16) rfl (own_ic_gtN (by decide)) ?_
    refine XS.aloadN X711.here hx rfl (hb hby d_prog_72_method_2_code_19) rfl rfl ?_
    refine XS.iload X711.here hx rfl (hb hby d_prog_72_method_2_code_20) rfl ?_
    refine XS.iconst X711.here hx rfl (hb hby d_prog_72_method_2_code_22) ?_
    show Steps p.tables e below (T710.setTop (mkF m 23 #[vr a, vd x, ss, vr a697, vi (1 : Int32)] [(.int (1 : Int32)), (.int (1 : Int32)), (.ref a697)])) tQ
    refine XS.isub X711.here hx rfl (hb hby d_prog_72_method_2_code_23) rfl ?_
    refine XS.dloadN X711.here hx rfl (hb hby d_prog_72_method_2_code_24) rfl ?_
    refine XS.iload X711.here hx rfl (hb hby d_prog_72_method_2_code_25) rfl ?_
    refine XS.iconst X711.here hx rfl (hb hby d_prog_72_method_2_code_27) ?_
    show Steps p.tables e below (T710.setTop (mkF m 28 #[vr a, vd x, ss, vr a697, vi (1 : Int32)] [(.int (1 : Int32)), (.int (1 : Int32)), (.double x), (.int (0 : Int32)), (.ref a697)])) tQ
    refine XS.isub X711.here hx rfl (hb hby d_prog_72_method_2_code_28) rfl ?_
    refine XS.i2dS X711.here hx rfl (hb hby d_prog_72_method_2_code_29) rfl rfl ?_
    refine XS.aloadN X711.here hx rfl (hb hby d_prog_72_method_2_code_30) rfl rfl ?_
    exact kk
  clear k714
  obtain ⟨T716, X717, e718, st719⟩ := getF X711 hx hZ hown (host := "") (Or.inl (tw31 hw)) Via.refl e712 F705 (g := (mkF m 31 #[vr a, vd x, ss, vr a697, vi (1 : Int32)] [(.ref a), (.double (FP.i2d (0 : Int32))), (.double x), (.int (0 : Int32)), (.ref a697)])) rfl rfl (hb hby d_prog_72_method_2_code_31)
  have k720 : own_G p e below E0 T716 (mkF m 34 #[vr a, vd x, ss, vr a697, vi (1 : Int32)] [(.double z), (.double (FP.i2d (0 : Int32))), (.double x), (.int (0 : Int32)), (.ref a697)]) := fun tQ kk => k715 tQ (st719 _ kk)
  clear k715 st719
  have k721 : own_G p e below E0 T716 (mkF m 36 #[vr a, vd x, ss, vr a697, vi (1 : Int32)] [(.double (FP.dadd x (FP.dmul (FP.i2d (0 : Int32)) z))), (.int (0 : Int32)), (.ref a697)]) := by
    intro tQ kk
    refine k720 tQ ?_
    refine XS.dmulS X717.here hx rfl (hb hby d_prog_72_method_2_code_34) rfl (nn (0 : Int32) (by decide) (by decide)).1 rfl ?_
    refine XS.daddS X717.here hx rfl (hb hby d_prog_72_method_2_code_35) rfl (nn (0 : Int32) (by decide) (by decide)).2 rfl ?_
    exact kk
  clear k720
  obtain ⟨T722, h723, X724, e725, W726, F727, st728⟩ := own_A.dst X717 hx hZ e718 F707 (j := (0 : Int32)) (by decide) rfl (g := (mkF m 36 #[vr a, vd x, ss, vr a697, vi (1 : Int32)] [(.double (FP.dadd x (FP.dmul (FP.i2d (0 : Int32)) z))), (.int (0 : Int32)), (.ref a697)])) rfl rfl (hb hby d_prog_72_method_2_code_36)
  have N729 := Fr.snoc X724 N0 ge702
  have k730 : own_G p e below E0 T722 (mkF m 37 #[vr a, vd x, ss, vr a697, vi (1 : Int32)] []) := fun tQ kk => k721 tQ (st728 _ kk)
  clear k721 st728
  have F731 : fd5 Z h723 a (.int (6 : Int32)) := F704.other W726 (Or.inl n699)
  clear F704
  have F732 : fd6 Z h723 a (.double z) := F705.other W726 (Or.inl n699)
  clear F705
  have Z733 : n0 ≤ h723.size := by rw [W726.size]; exact Z703
  have K734 : Keep h0 h723 [] := K706.wr W726 (Or.inr nw701)
  have F735 : own_A Z h723 a697 .double [(.double (FP.dadd x (FP.dmul (FP.i2d (0 : Int32)) z))), (.double (0 : UInt64)), (.double (0 : UInt64)), (.double (0 : UInt64)), (.double (0 : UInt64)), (.double (0 : UInt64))] := F727
  have k736 : own_G p e below E0 T722 (mkF m 13 #[vr a, vd x, ss, vr a697, vi (2 : Int32)] [(.ref a), (.int (2 : Int32))]) := by
    intro tQ kk
    refine k730 tQ ?_
    refine XS.iinc X724.here hx rfl (hb hby d_prog_72_method_2_code_37) rfl (l' := #[vr a, vd x, ss, vr a697, vi (2 : Int32)]) rfl ?_
    refine XS.goto X724.here hx rfl (pc0 := 40) (pc' := 10) rfl (hb hby d_prog_72_method_2_code_40) (by decide) (by decide) ?_
    refine XS.iload X724.here hx rfl (hb hby d_prog_72_method_2_code_10) rfl ?_
    refine XS.aloadN X724.here hx rfl (hb hby d_prog_72_method_2_code_12) rfl rfl ?_
    exact kk
  clear k730
  obtain ⟨T737, X738, e739, st740⟩ := getF X724 hx hZ hown (host := "") (Or.inl (tw29 hw)) Via.refl e725 F731 (g := (mkF m 13 #[vr a, vd x, ss, vr a697, vi (2 : Int32)] [(.ref a), (.int (2 : Int32))])) rfl rfl (hb hby d_prog_72_method_2_code_13)
  have k741 : own_G p e below E0 T737 (mkF m 16 #[vr a, vd x, ss, vr a697, vi (2 : Int32)] [(.int (6 : Int32)), (.int (2 : Int32))]) := fun tQ kk => k736 tQ (st740 _ kk)
  clear k736 st740
  have k742 : own_G p e below E0 T737 (mkF m 31 #[vr a, vd x, ss, vr a697, vi (2 : Int32)] [(.ref a), (.double (FP.i2d (1 : Int32))), (.double x), (.int (1 : Int32)), (.ref a697)]) := by
    intro tQ kk
    refine k741 tQ ?_
    refine XS.icmpNo X738.here hx rfl (hb hby d_prog_72_method_2_code_16) rfl (own_ic_gtN (by decide)) ?_
    refine XS.aloadN X738.here hx rfl (hb hby d_prog_72_method_2_code_19) rfl rfl ?_
    refine XS.iload X738.here hx rfl (hb hby d_prog_72_method_2_code_20) rfl ?_
    refine XS.iconst X738.here hx rfl (hb hby d_prog_72_method_2_code_22) ?_
    show Steps p.tables e below (T737.setTop (mkF m 23 #[vr a, vd x, ss, vr a697, vi (2 : Int32)] [(.int (1 : Int32)), (.int (2 : Int32)), (.ref a697)])) tQ
    refine XS.isub X738.here hx rfl (hb hby d_prog_72_method_2_code_23) rfl ?_
    refine XS.dloadN X738.here hx rfl (hb hby d_prog_72_method_2_code_24) rfl ?_
    refine XS.iload X738.here hx rfl (hb hby d_prog_72_method_2_code_25) rfl ?_
    refine XS.iconst X738.here hx rfl (hb hby d_prog_72_method_2_code_27) ?_
    show Steps p.tables e below (T737.setTop (mkF m 28 #[vr a, vd x, ss, vr a697, vi (2 : Int32)] [(.int (1 : Int32)), (.int (2 : Int32)), (.double x), (.int (1 : Int32)), (.ref a697)])) tQ
    refine XS.isub X738.here hx rfl (hb hby d_prog_72_method_2_code_28) rfl ?_
    refine XS.i2dS X738.here hx rfl (hb hby d_prog_72_method_2_code_29) rfl rfl ?_
    refine XS.aloadN X738.here hx rfl (hb hby d_prog_72_method_2_code_30) rfl rfl ?_
    exact kk
  clear k741
  obtain ⟨T743, X744, e745, st746⟩ := getF X738 hx hZ hown (host := "") (Or.inl (tw31 hw)) Via.refl e739 F732 (g := (mkF m 31 #[vr a, vd x, ss, vr a697, vi (2 : Int32)] [(.ref a), (.double (FP.i2d (1 : Int32))), (.double x), (.int (1 : Int32)), (.ref a697)])) rfl rfl (hb hby d_prog_72_method_2_code_31)
  have k747 : own_G p e below E0 T743 (mkF m 34 #[vr a, vd x, ss, vr a697, vi (2 : Int32)] [(.double z), (.double (FP.i2d (1 : Int32))), (.double x), (.int (1 : Int32)), (.ref a697)]) := fun tQ kk => k742 tQ (st746 _ kk)
  clear k742 st746
  have k748 : own_G p e below E0 T743 (mkF m 36 #[vr a, vd x, ss, vr a697, vi (2 : Int32)] [(.double (FP.dadd x (FP.dmul (FP.i2d (1 : Int32)) z))), (.int (1 : Int32)), (.ref a697)]) := by
    intro tQ kk
    refine k747 tQ ?_
    refine XS.dmulS X744.here hx rfl (hb hby d_prog_72_method_2_code_34) rfl (nn (1 : Int32) (by decide) (by decide)).1 rfl ?_
    refine XS.daddS X744.here hx rfl (hb hby d_prog_72_method_2_code_35) rfl (nn (1 : Int32) (by decide) (by decide)).2 rfl ?_
    exact kk
  clear k747
  obtain ⟨T749, h750, X751, e752, W753, F754, st755⟩ := own_A.dst X744 hx hZ e745 F735 (j := (1 : Int32)) (by decide) rfl (g := (mkF m 36 #[vr a, vd x, ss, vr a697, vi (2 : Int32)] [(.double (FP.dadd x (FP.dmul (FP.i2d (1 : Int32)) z))), (.int (1 : Int32)), (.ref a697)])) rfl rfl (hb hby d_prog_72_method_2_code_36)
  have N756 := Fr.snoc X751 N729 ge702
  have k757 : own_G p e below E0 T749 (mkF m 37 #[vr a, vd x, ss, vr a697, vi (2 : Int32)] []) := fun tQ kk => k748 tQ (st755 _ kk)
  clear k748 st755
  have F758 : fd5 Z h750 a (.int (6 : Int32)) := F731.other W753 (Or.inl n699)
  clear F731
  have F759 : fd6 Z h750 a (.double z) := F732.other W753 (Or.inl n699)
  clear F732
  have Z760 : n0 ≤ h750.size := by rw [W753.size]; exact Z733
  have K761 : Keep h0 h750 [] := K734.wr W753 (Or.inr nw701)
  have F762 : own_A Z h750 a697 .double [(.double (FP.dadd x (FP.dmul (FP.i2d (0 : Int32)) z))), (.double (FP.dadd x (FP.dmul (FP.i2d (1 : Int32)) z))), (.double (0 : UInt64)), (.double (0 : UInt64)), (.double (0 : UInt64)), (.double (0 : UInt64))] := F754
  have k763 : own_G p e below E0 T749 (mkF m 13 #[vr a, vd x, ss, vr a697, vi (3 : Int32)] [(.ref a), (.int (3 : Int32))]) := by
    intro tQ kk
    refine k757 tQ ?_
    refine XS.iinc X751.here hx rfl (hb hby d_prog_72_method_2_code_37) rfl (l' := #[vr a, vd x, ss, vr a697, vi (3 : Int32)]) rfl ?_
    refine XS.goto X751.here hx rfl (pc0 := 40) (pc' := 10) rfl (hb hby d_prog_72_method_2_code_40) (by decide) (by decide) ?_
    refine XS.iload X751.here hx rfl (hb hby d_prog_72_method_2_code_10) rfl ?_
    refine XS.aloadN X751.here hx rfl (hb hby d_prog_72_method_2_code_12) rfl rfl ?_
    exact kk
  clear k757
  obtain ⟨T764, X765, e766, st767⟩ := getF X751 hx hZ hown (host := "") (Or.inl (tw29 hw)) Via.refl e752 F758 (g := (mkF m 13 #[vr a, vd x, ss, vr a697, vi (3 : Int32)] [(.ref a), (.int (3 : Int32))])) rfl rfl (hb hby d_prog_72_method_2_code_13)
  have k768 : own_G p e below E0 T764 (mkF m 16 #[vr a, vd x, ss, vr a697, vi (3 : Int32)] [(.int (6 : Int32)), (.int (3 : Int32))]) := fun tQ kk => k763 tQ (st767 _ kk)
  clear k763 st767
  have k769 : own_G p e below E0 T764 (mkF m 31 #[vr a, vd x, ss, vr a697, vi (3 : Int32)] [(.ref a), (.double (FP.i2d (2 : Int32))), (.double x), (.int (2 : Int32)), (.ref a697)]) := by
    intro tQ kk
    refine k768 tQ ?_
    refine XS.icmpNo X765.here hx rfl (hb hby d_prog_72_method_2_code_16) rfl (own_ic_gtN (by decide)) ?_
    refine XS.aloadN X765.here hx rfl (hb hby d_prog_72_method_2_code_19) rfl rfl ?_
    refine XS.iload X765.here hx rfl (hb hby d_prog_72_method_2_code_20) rfl ?_
    refine XS.iconst X765.here hx rfl (hb hby d_prog_72_method_2_code_22) ?_
    show Steps p.tables e below (T764.setTop (mkF m 23 #[vr a, vd x, ss, vr a697, vi (3 : Int32)] [(.int (1 : Int32)), (.int (3 : Int32)), (.ref a697)])) tQ
    refine XS.isub X765.here hx rfl (hb hby d_prog_72_method_2_code_23) rfl ?_
    refine XS.dloadN X765.here hx rfl (hb hby d_prog_72_method_2_code_24) rfl ?_
    refine XS.iload X765.here hx rfl (hb hby d_prog_72_method_2_code_25) rfl ?_
    refine XS.iconst X765.here hx rfl (hb hby d_prog_72_method_2_code_27) ?_
    show Steps p.tables e below (T764.setTop (mkF m 28 #[vr a, vd x, ss, vr a697, vi (3 : Int32)] [(.int (1 : Int32)), (.int (3 : Int32)), (.double x), (.int (2 : Int32)), (.ref a697)])) tQ
    refine XS.isub X765.here hx rfl (hb hby d_prog_72_method_2_code_28) rfl ?_
    refine XS.i2dS X765.here hx rfl (hb hby d_prog_72_method_2_code_29) rfl rfl ?_
    refine XS.aloadN X765.here hx rfl (hb hby d_prog_72_method_2_code_30) rfl rfl ?_
    exact kk
  clear k768
  obtain ⟨T770, X771, e772, st773⟩ := getF X765 hx hZ hown (host := "") (Or.inl (tw31 hw)) Via.refl e766 F759 (g := (mkF m 31 #[vr a, vd x, ss, vr a697, vi (3 : Int32)] [(.ref a), (.double (FP.i2d (2 : Int32))), (.double x), (.int (2 : Int32)), (.ref a697)])) rfl rfl (hb hby d_prog_72_method_2_code_31)
  have k774 : own_G p e below E0 T770 (mkF m 34 #[vr a, vd x, ss, vr a697, vi (3 : Int32)] [(.double z), (.double (FP.i2d (2 : Int32))), (.double x), (.int (2 : Int32)), (.ref a697)]) := fun tQ kk => k769 tQ (st773 _ kk)
  clear k769 st773
  have k775 : own_G p e below E0 T770 (mkF m 36 #[vr a, vd x, ss, vr a697, vi (3 : Int32)] [(.double (FP.dadd x (FP.dmul (FP.i2d (2 : Int32)) z))), (.int (2 : Int32)), (.ref a697)]) := by
    intro tQ kk
    refine k774 tQ ?_
    refine XS.dmulS X771.here hx rfl (hb hby d_prog_72_method_2_code_34) rfl (nn (2 : Int32) (by decide) (by decide)).1 rfl ?_
    refine XS.daddS X771.here hx rfl (hb hby d_prog_72_method_2_code_35) rfl (nn (2 : Int32) (by decide) (by decide)).2 rfl ?_
    exact kk
  clear k774
  obtain ⟨T776, h777, X778, e779, W780, F781, st782⟩ := own_A.dst X771 hx hZ e772 F762 (j := (2 : Int32)) (by decide) rfl (g := (mkF m 36 #[vr a, vd x, ss, vr a697, vi (3 : Int32)] [(.double (FP.dadd x (FP.dmul (FP.i2d (2 : Int32)) z))), (.int (2 : Int32)), (.ref a697)])) rfl rfl (hb hby d_prog_72_method_2_code_36)
  have N783 := Fr.snoc X778 N756 ge702
  have k784 : own_G p e below E0 T776 (mkF m 37 #[vr a, vd x, ss, vr a697, vi (3 : Int32)] []) := fun tQ kk => k775 tQ (st782 _ kk)
  clear k775 st782
  have F785 : fd5 Z h777 a (.int (6 : Int32)) := F758.other W780 (Or.inl n699)
  clear F758
  have F786 : fd6 Z h777 a (.double z) := F759.other W780 (Or.inl n699)
  clear F759
  have Z787 : n0 ≤ h777.size := by rw [W780.size]; exact Z760
  have K788 : Keep h0 h777 [] := K761.wr W780 (Or.inr nw701)
  have F789 : own_A Z h777 a697 .double [(.double (FP.dadd x (FP.dmul (FP.i2d (0 : Int32)) z))), (.double (FP.dadd x (FP.dmul (FP.i2d (1 : Int32)) z))), (.double (FP.dadd x (FP.dmul (FP.i2d (2 : Int32)) z))), (.double (0 : UInt64)), (.double (0 : UInt64)), (.double (0 : UInt64))] := F781
  have k790 : own_G p e below E0 T776 (mkF m 13 #[vr a, vd x, ss, vr a697, vi (4 : Int32)] [(.ref a), (.int (4 : Int32))]) := by
    intro tQ kk
    refine k784 tQ ?_
    refine XS.iinc X778.here hx rfl (hb hby d_prog_72_method_2_code_37) rfl (l' := #[vr a, vd x, ss, vr a697, vi (4 : Int32)]) rfl ?_
    refine XS.goto X778.here hx rfl (pc0 := 40) (pc' := 10) rfl (hb hby d_prog_72_method_2_code_40) (by decide) (by decide) ?_
    refine XS.iload X778.here hx rfl (hb hby d_prog_72_method_2_code_10) rfl ?_
    refine XS.aloadN X778.here hx rfl (hb hby d_prog_72_method_2_code_12) rfl rfl ?_
    exact kk
  clear k784
  obtain ⟨T791, X792, e793, st794⟩ := getF X778 hx hZ hown (host := "") (Or.inl (tw29 hw)) Via.refl e779 F785 (g := (mkF m 13 #[vr a, vd x, ss, vr a697, vi (4 : Int32)] [(.ref a), (.int (4 : Int32))])) rfl rfl (hb hby d_prog_72_method_2_code_13)
  have k795 : own_G p e below E0 T791 (mkF m 16 #[vr a, vd x, ss, vr a697, vi (4 : Int32)] [(.int (6 : Int32)), (.int (4 : Int32))]) := fun tQ kk => k790 tQ (st794 _ kk)
  clear k790 st794
  have k796 : own_G p e below E0 T791 (mkF m 31 #[vr a, vd x, ss, vr a697, vi (4 : Int32)] [(.ref a), (.double (FP.i2d (3 : Int32))), (.double x), (.int (3 : Int32)), (.ref a697)]) := by
    intro tQ kk
    refine k795 tQ ?_
    refine XS.icmpNo X792.here hx rfl (hb hby d_prog_72_method_2_code_16) rfl (own_ic_gtN (by decide)) ?_
    refine XS.aloadN X792.here hx rfl (hb hby d_prog_72_method_2_code_19) rfl rfl ?_
    refine XS.iload X792.here hx rfl (hb hby d_prog_72_method_2_code_20) rfl ?_
    refine XS.iconst X792.here hx rfl (hb hby d_prog_72_method_2_code_22) ?_
    show Steps p.tables e below (T791.setTop (mkF m 23 #[vr a, vd x, ss, vr a697, vi (4 : Int32)] [(.int (1 : Int32)), (.int (4 : Int32)), (.ref a697)])) tQ
    refine XS.isub X792.here hx rfl (hb hby d_prog_72_method_2_code_23) rfl ?_
    refine XS.dloadN X792.here hx rfl (hb hby d_prog_72_method_2_code_24) rfl ?_
    refine XS.iload X792.here hx rfl (hb hby d_prog_72_method_2_code_25) rfl ?_
    refine XS.iconst X792.here hx rfl (hb hby d_prog_72_method_2_code_27) ?_
    show Steps p.tables e below (T791.setTop (mkF m 28 #[vr a, vd x, ss, vr a697, vi (4 : Int32)] [(.int (1 : Int32)), (.int (4 : Int32)), (.double x), (.int (3 : Int32)), (.ref a697)])) tQ
    refine XS.isub X792.here hx rfl (hb hby d_prog_72_method_2_code_28) rfl ?_
    refine XS.i2dS X792.here hx rfl (hb hby d_prog_72_method_2_code_29) rfl rfl ?_
    refine XS.aloadN X792.here hx rfl (hb hby d_prog_72_method_2_code_30) rfl rfl ?_
    exact kk
  clear k795
  obtain ⟨T797, X798, e799, st800⟩ := getF X792 hx hZ hown (host := "") (Or.inl (tw31 hw)) Via.refl e793 F786 (g := (mkF m 31 #[vr a, vd x, ss, vr a697, vi (4 : Int32)] [(.ref a), (.double (FP.i2d (3 : Int32))), (.double x), (.int (3 : Int32)), (.ref a697)])) rfl rfl (hb hby d_prog_72_method_2_code_31)
  have k801 : own_G p e below E0 T797 (mkF m 34 #[vr a, vd x, ss, vr a697, vi (4 : Int32)] [(.double z), (.double (FP.i2d (3 : Int32))), (.double x), (.int (3 : Int32)), (.ref a697)]) := fun tQ kk => k796 tQ (st800 _ kk)
  clear k796 st800
  have k802 : own_G p e below E0 T797 (mkF m 36 #[vr a, vd x, ss, vr a697, vi (4 : Int32)] [(.double (FP.dadd x (FP.dmul (FP.i2d (3 : Int32)) z))), (.int (3 : Int32)), (.ref a697)]) := by
    intro tQ kk
    refine k801 tQ ?_
    refine XS.dmulS X798.here hx rfl (hb hby d_prog_72_method_2_code_34) rfl (nn (3 : Int32) (by decide) (by decide)).1 rfl ?_
    refine XS.daddS X798.here hx rfl (hb hby d_prog_72_method_2_code_35) rfl (nn (3 : Int32) (by decide) (by decide)).2 rfl ?_
    exact kk
  clear k801
  obtain ⟨T803, h804, X805, e806, W807, F808, st809⟩ := own_A.dst X798 hx hZ e799 F789 (j := (3 : Int32)) (by decide) rfl (g := (mkF m 36 #[vr a, vd x, ss, vr a697, vi (4 : Int32)] [(.double (FP.dadd x (FP.dmul (FP.i2d (3 : Int32)) z))), (.int (3 : Int32)), (.ref a697)])) rfl rfl (hb hby d_prog_72_method_2_code_36)
  have N810 := Fr.snoc X805 N783 ge702
  have k811 : own_G p e below E0 T803 (mkF m 37 #[vr a, vd x, ss, vr a697, vi (4 : Int32)] []) := fun tQ kk => k802 tQ (st809 _ kk)
  clear k802 st809
  have F812 : fd5 Z h804 a (.int (6 : Int32)) := F785.other W807 (Or.inl n699)
  clear F785
  have F813 : fd6 Z h804 a (.double z) := F786.other W807 (Or.inl n699)
  clear F786
  have Z814 : n0 ≤ h804.size := by rw [W807.size]; exact Z787
  have K815 : Keep h0 h804 [] := K788.wr W807 (Or.inr nw701)
  have F816 : own_A Z h804 a697 .double [(.double (FP.dadd x (FP.dmul (FP.i2d (0 : Int32)) z))), (.double (FP.dadd x (FP.dmul (FP.i2d (1 : Int32)) z))), (.double (FP.dadd x (FP.dmul (FP.i2d (2 : Int32)) z))), (.double (FP.dadd x (FP.dmul (FP.i2d (3 : Int32)) z))), (.double (0 : UInt64)), (.double (0 : UInt64))] := F808
  have k817 : own_G p e below E0 T803 (mkF m 13 #[vr a, vd x, ss, vr a697, vi (5 : Int32)] [(.ref a), (.int (5 : Int32))]) := by
    intro tQ kk
    refine k811 tQ ?_
    refine XS.iinc X805.here hx rfl (hb hby d_prog_72_method_2_code_37) rfl (l' := #[vr a, vd x, ss, vr a697, vi (5 : Int32)]) rfl ?_
    refine XS.goto X805.here hx rfl (pc0 := 40) (pc' := 10) rfl (hb hby d_prog_72_method_2_code_40) (by decide) (by decide) ?_
    refine XS.iload X805.here hx rfl (hb hby d_prog_72_method_2_code_10) rfl ?_
    refine XS.aloadN X805.here hx rfl (hb hby d_prog_72_method_2_code_12) rfl rfl ?_
    exact kk
  clear k811
  obtain ⟨T818, X819, e820, st821⟩ := getF X805 hx hZ hown (host := "") (Or.inl (tw29 hw)) Via.refl e806 F812 (g := (mkF m 13 #[vr a, vd x, ss, vr a697, vi (5 : Int32)] [(.ref a), (.int (5 : Int32))])) rfl rfl (hb hby d_prog_72_method_2_code_13)
  have k822 : own_G p e below E0 T818 (mkF m 16 #[vr a, vd x, ss, vr a697, vi (5 : Int32)] [(.int (6 : Int32)), (.int (5 : Int32))]) := fun tQ kk => k817 tQ (st821 _ kk)
  clear k817 st821
  have k823 : own_G p e below E0 T818 (mkF m 31 #[vr a, vd x, ss, vr a697, vi (5 : Int32)] [(.ref a), (.double (FP.i2d (4 : Int32))), (.double x), (.int (4 : Int32)), (.ref a697)]) := by
    intro tQ kk
    refine k822 tQ ?_
    refine XS.icmpNo X819.here hx rfl (hb hby d_prog_72_method_2_code_16) rfl (own_ic_gtN (by decide)) ?_
    refine XS.aloadN X819.here hx rfl (hb hby d_prog_72_method_2_code_19) rfl rfl ?_
    refine XS.iload X819.here hx rfl (hb hby d_prog_72_method_2_code_20) rfl ?_
    refine XS.iconst X819.here hx rfl (hb hby d_prog_72_method_2_code_22) ?_
    show Steps p.tables e below (T818.setTop (mkF m 23 #[vr a, vd x, ss, vr a697, vi (5 : Int32)] [(.int (1 : Int32)), (.int (5 : Int32)), (.ref a697)])) tQ
    refine XS.isub X819.here hx rfl (hb hby d_prog_72_method_2_code_23) rfl ?_
    refine XS.dloadN X819.here hx rfl (hb hby d_prog_72_method_2_code_24) rfl ?_
    refine XS.iload X819.here hx rfl (hb hby d_prog_72_method_2_code_25) rfl ?_
    refine XS.iconst X819.here hx rfl (hb hby d_prog_72_method_2_code_27) ?_
    show Steps p.tables e below (T818.setTop (mkF m 28 #[vr a, vd x, ss, vr a697, vi (5 : Int32)] [(.int (1 : Int32)), (.int (5 : Int32)), (.double x), (.int (4 : Int32)), (.ref a697)])) tQ
    refine XS.isub X819.here hx rfl (hb hby d_prog_72_method_2_code_28) rfl ?_
    refine XS.i2dS X819.here hx rfl (hb hby d_prog_72_method_2_code_29) rfl rfl ?_
    refine XS.aloadN X819.here hx rfl (hb hby d_prog_72_method_2_code_30) rfl rfl ?_
    exact kk
  clear k822
  obtain ⟨T824, X825, e826, st827⟩ := getF X819 hx hZ hown (host := "") (Or.inl (tw31 hw)) Via.refl e820 F813 (g := (mkF m 31 #[vr a, vd x, ss, vr a697, vi (5 : Int32)] [(.ref a), (.double (FP.i2d (4 : Int32))), (.double x), (.int (4 : Int32)), (.ref a697)])) rfl rfl (hb hby d_prog_72_method_2_code_31)
  have k828 : own_G p e below E0 T824 (mkF m 34 #[vr a, vd x, ss, vr a697, vi (5 : Int32)] [(.double z), (.double (FP.i2d (4 : Int32))), (.double x), (.int (4 : Int32)), (.ref a697)]) := fun tQ kk => k823 tQ (st827 _ kk)
  clear k823 st827
  have k829 : own_G p e below E0 T824 (mkF m 36 #[vr a, vd x, ss, vr a697, vi (5 : Int32)] [(.double (FP.dadd x (FP.dmul (FP.i2d (4 : Int32)) z))), (.int (4 : Int32)), (.ref a697)]) := by
    intro tQ kk
    refine k828 tQ ?_
    refine XS.dmulS X825.here hx rfl (hb hby d_prog_72_method_2_code_34) rfl (nn (4 : Int32) (by decide) (by decide)).1 rfl ?_
    refine XS.daddS X825.here hx rfl (hb hby d_prog_72_method_2_code_35) rfl (nn (4 : Int32) (by decide) (by decide)).2 rfl ?_
    exact kk
  clear k828
  obtain ⟨T830, h831, X832, e833, W834, F835, st836⟩ := own_A.dst X825 hx hZ e826 F816 (j := (4 : Int32)) (by decide) rfl (g := (mkF m 36 #[vr a, vd x, ss, vr a697, vi (5 : Int32)] [(.double (FP.dadd x (FP.dmul (FP.i2d (4 : Int32)) z))), (.int (4 : Int32)), (.ref a697)])) rfl rfl (hb hby d_prog_72_method_2_code_36)
  have N837 := Fr.snoc X832 N810 ge702
  have k838 : own_G p e below E0 T830 (mkF m 37 #[vr a, vd x, ss, vr a697, vi (5 : Int32)] []) := fun tQ kk => k829 tQ (st836 _ kk)
  clear k829 st836
  have F839 : fd5 Z h831 a (.int (6 : Int32)) := F812.other W834 (Or.inl n699)
  clear F812
  have F840 : fd6 Z h831 a (.double z) := F813.other W834 (Or.inl n699)
  clear F813
  have Z841 : n0 ≤ h831.size := by rw [W834.size]; exact Z814
  have K842 : Keep h0 h831 [] := K815.wr W834 (Or.inr nw701)
  have F843 : own_A Z h831 a697 .double [(.double (FP.dadd x (FP.dmul (FP.i2d (0 : Int32)) z))), (.double (FP.dadd x (FP.dmul (FP.i2d (1 : Int32)) z))), (.double (FP.dadd x (FP.dmul (FP.i2d (2 : Int32)) z))), (.double (FP.dadd x (FP.dmul (FP.i2d (3 : Int32)) z))), (.double (FP.dadd x (FP.dmul (FP.i2d (4 : Int32)) z))), (.double (0 : UInt64))] := F835
  have k844 : own_G p e below E0 T830 (mkF m 13 #[vr a, vd x, ss, vr a697, vi (6 : Int32)] [(.ref a), (.int (6 : Int32))]) := by
    intro tQ kk
    refine k838 tQ ?_
    refine XS.iinc X832.here hx rfl (hb hby d_prog_72_method_2_code_37) rfl (l' := #[vr a, vd x, ss, vr a697, vi (6 : Int32)]) rfl ?_
    refine XS.goto X832.here hx rfl (pc0 := 40) (pc' := 10) rfl (hb hby d_prog_72_method_2_code_40) (by decide) (by decide) ?_
    refine XS.iload X832.here hx rfl (hb hby d_prog_72_method_2_code_10) rfl ?_
    refine XS.aloadN X832.here hx rfl (hb hby d_prog_72_method_2_code_12) rfl rfl ?_
    exact kk
  clear k838
  obtain ⟨T845, X846, e847, st848⟩ := getF X832 hx hZ hown (host := "") (Or.inl (tw29 hw)) Via.refl e833 F839 (g := (mkF m 13 #[vr a, vd x, ss, vr a697, vi (6 : Int32)] [(.ref a), (.int (6 : Int32))])) rfl rfl (hb hby d_prog_72_method_2_code_13)
  have k849 : own_G p e below E0 T845 (mkF m 16 #[vr a, vd x, ss, vr a697, vi (6 : Int32)] [(.int (6 : Int32)), (.int (6 : Int32))]) := fun tQ kk => k844 tQ (st848 _ kk)
  clear k844 st848
  have k850 : own_G p e below E0 T845 (mkF m 31 #[vr a, vd x, ss, vr a697, vi (6 : Int32)] [(.ref a), (.double (FP.i2d (5 : Int32))), (.double x), (.int (5 : Int32)), (.ref a697)]) := by
    intro tQ kk
    refine k849 tQ ?_
    refine XS.icmpNo X846.here hx rfl (hb hby d_prog_72_method_2_code_16) rfl (own_ic_gtN (by decide)) ?_
    refine XS.aloadN X846.here hx rfl (hb hby d_prog_72_method_2_code_19) rfl rfl ?_
    refine XS.iload X846.here hx rfl (hb hby d_prog_72_method_2_code_20) rfl ?_
    refine XS.iconst X846.here hx rfl (hb hby d_prog_72_method_2_code_22) ?_
    show Steps p.tables e below (T845.setTop (mkF m 23 #[vr a, vd x, ss, vr a697, vi (6 : Int32)] [(.int (1 : Int32)), (.int (6 : Int32)), (.ref a697)])) tQ
    refine XS.isub X846.here hx rfl (hb hby d_prog_72_method_2_code_23) rfl ?_
    refine XS.dloadN X846.here hx rfl (hb hby d_prog_72_method_2_code_24) rfl ?_
    refine XS.iload X846.here hx rfl (hb hby d_prog_72_method_2_code_25) rfl ?_
    refine XS.iconst X846.here hx rfl (hb hby d_prog_72_method_2_code_27) ?_
    show Steps p.tables e below (T845.setTop (mkF m 28 #[vr a, vd x, ss, vr a697, vi (6 : Int32)] [(.int (1 : Int32)), (.int (6 : Int32)), (.double x), (.int (5 : Int32)), (.ref a697)])) tQ
    refine XS.isub X846.here hx rfl (hb hby d_prog_72_method_2_code_28) rfl ?_
    refine XS.i2dS X846.here hx rfl (hb hby d_prog_72_method_2_code_29) rfl rfl ?_
    refine XS.aloadN X846.here hx rfl (hb hby d_prog_72_method_2_code_30) rfl rfl ?_
    exact kk
  clear k849
  obtain ⟨T851, X852, e853, st854⟩ := getF X846 hx hZ hown (host := "") (Or.inl (tw31 hw)) Via.refl e847 F840 (g := (mkF m 31 #[vr a, vd x, ss, vr a697, vi (6 : Int32)] [(.ref a), (.double (FP.i2d (5 : Int32))), (.double x), (.int (5 : Int32)), (.ref a697)])) rfl rfl (hb hby d_prog_72_method_2_code_31)
  have k855 : own_G p e below E0 T851 (mkF m 34 #[vr a, vd x, ss, vr a697, vi (6 : Int32)] [(.double z), (.double (FP.i2d (5 : Int32))), (.double x), (.int (5 : Int32)), (.ref a697)]) := fun tQ kk => k850 tQ (st854 _ kk)
  clear k850 st854
  have k856 : own_G p e below E0 T851 (mkF m 36 #[vr a, vd x, ss, vr a697, vi (6 : Int32)] [(.double (FP.dadd x (FP.dmul (FP.i2d (5 : Int32)) z))), (.int (5 : Int32)), (.ref a697)]) := by
    intro tQ kk
    refine k855 tQ ?_
    refine XS.dmulS X852.here hx rfl (hb hby d_prog_72_method_2_code_34) rfl (nn (5 : Int32) (by decide) (by decide)).1 rfl ?_
    refine XS.daddS X852.here hx rfl (hb hby d_prog_72_method_2_code_35) rfl (nn (5 : Int32) (by decide) (by decide)).2 rfl ?_
    exact kk
  clear k855
  obtain ⟨T857, h858, X859, e860, W861, F862, st863⟩ := own_A.dst X852 hx hZ e853 F843 (j := (5 : Int32)) (by decide) rfl (g := (mkF m 36 #[vr a, vd x, ss, vr a697, vi (6 : Int32)] [(.double (FP.dadd x (FP.dmul (FP.i2d (5 : Int32)) z))), (.int (5 : Int32)), (.ref a697)])) rfl rfl (hb hby d_prog_72_method_2_code_36)
  have N864 := Fr.snoc X859 N837 ge702
  have k865 : own_G p e below E0 T857 (mkF m 37 #[vr a, vd x, ss, vr a697, vi (6 : Int32)] []) := fun tQ kk => k856 tQ (st863 _ kk)
  clear k856 st863
  have F866 : fd5 Z h858 a (.int (6 : Int32)) := F839.other W861 (Or.inl n699)
  clear F839
  have F867 : fd6 Z h858 a (.double z) := F840.other W861 (Or.inl n699)
  clear F840
  have Z868 : n0 ≤ h858.size := by rw [W861.size]; exact Z841
  have K869 : Keep h0 h858 [] := K842.wr W861 (Or.inr nw701)
  have F870 : own_A Z h858 a697 .double [(.double (FP.dadd x (FP.dmul (FP.i2d (0 : Int32)) z))), (.double (FP.dadd x (FP.dmul (FP.i2d (1 : Int32)) z))), (.double (FP.dadd x (FP.dmul (FP.i2d (2 : Int32)) z))), (.double (FP.dadd x (FP.dmul (FP.i2d (3 : Int32)) z))), (.double (FP.dadd x (FP.dmul (FP.i2d (4 : Int32)) z))), (.double (FP.dadd x (FP.dmul (FP.i2d (5 : Int32)) z)))] := F862
  have k871 : own_G p e below E0 T857 (mkF m 13 #[vr a, vd x, ss, vr a697, vi (7 : Int32)] [(.ref a), (.int (7 : Int32))]) := by
    intro tQ kk
    refine k865 tQ ?_
    refine XS.iinc X859.here hx rfl (hb hby d_prog_72_method_2_code_37) rfl (l' := #[vr a, vd x, ss, vr a697, vi (7 : Int32)]) rfl ?_
    refine XS.goto X859.here hx rfl (pc0 := 40) (pc' := 10) rfl (hb hby d_prog_72_method_2_code_40) (by decide) (by decide) ?_
    refine XS.iload X859.here hx rfl (hb hby d_prog_72_method_2_code_10) rfl ?_
    refine XS.aloadN X859.here hx rfl (hb hby d_prog_72_method_2_code_12) rfl rfl ?_
    exact kk
  clear k865
  obtain ⟨T872, X873, e874, st875⟩ := getF X859 hx hZ hown (host := "") (Or.inl (tw29 hw)) Via.refl e860 F866 (g := (mkF m 13 #[vr a, vd x, ss, vr a697, vi (7 : Int32)] [(.ref a), (.int (7 : Int32))])) rfl rfl (hb hby d_prog_72_method_2_code_13)
  have k876 : own_G p e below E0 T872 (mkF m 16 #[vr a, vd x, ss, vr a697, vi (7 : Int32)] [(.int (6 : Int32)), (.int (7 : Int32))]) := fun tQ kk => k871 tQ (st875 _ kk)
  clear k871 st875
  have k877 : own_G p e below E0 T872 (mkF m 44 #[vr a, vd x, ss, vr a697, vi (7 : Int32)] [(.ref a697)]) := by
    intro tQ kk
    refine k876 tQ ?_
    refine XS.icmpYes X873.here hx rfl (pc0 := 16) (pc' := 43) rfl (hb hby d_prog_72_method_2_code_16) rfl (own_ic_gtY (by decide)) (by decide) (by decide) ?_
    refine XS.aloadN X873.here hx rfl (hb hby d_prog_72_method_2_code_43) rfl rfl ?_
    exact kk
  clear k876
  obtain ⟨fs, hr, hrun, hended, hW, hsame⟩ := X873.leave (v := some (.ref a697)) (fun h => by rw [Bd.returns] at h; cases h)
  have hrun0 := k877 _ (retOut X873 hx Bd.returns (t := (.array .double)) rfl (Or.inr (Or.inr (Or.inr (Or.inr ⟨rfl, rfl, rfl⟩)))) (hb hby d_prog_72_method_2_code_44) hr)
  subst hE0
  refine ⟨_, _, hrun0, hrun, hended, _, _, rfl, ?_, ⟨_, rfl⟩, hW, hsame.mono (by decide) (by decide)⟩
  show QrmV6 Z a x z h0 n0 _ T872.heap _
  rw [e874]
  exact ⟨a697, rfl, N864, K869, F870⟩
def QrmV7 (Z : State) (a : Addr) (x : UInt64) (z : UInt64) (h0 : Heap) (n0 : Nat) (vQ : Option Value) (hQ : Heap) (LQ : List Loc) : Prop := ∃ (r : Addr), vQ = some (.ref r) ∧ Fr n0 LQ ∧ Keep h0 hQ [] ∧ (own_A Z hQ r .double [(.double (FP.dadd x (FP.dmul (FP.i2d (0 : Int32)) z))), (.double (FP.dadd x (FP.dmul (FP.i2d (1 : Int32)) z))), (.double (FP.dadd x (FP.dmul (FP.i2d (2 : Int32)) z))), (.double (FP.dadd x (FP.dmul (FP.i2d (3 : Int32)) z))), (.double (FP.dadd x (FP.dmul (FP.i2d (4 : Int32)) z))), (.double (FP.dadd x (FP.dmul (FP.i2d (5 : Int32)) z))), (.double (FP.dadd x (FP.dmul (FP.i2d (6 : Int32)) z)))])
theorem ef_rmV7 (m : MethodId) (a : Addr) (x : UInt64) (z : UInt64) : entryFrame m #[(.ref a), (.double x)] 5 = mkF m 0 #[vr a, vd x, ss, uu, uu] [] := by first | (simp [entryFrame, mkF, argsToLocals, Value.category]; done) | rfl
set_option maxRecDepth 65536 in
set_option maxHeartbeats 40000000 in
theorem rmV7 (l : Launch) (Z : State) (a0 : Array Value) (hw : ∀ d ∈ tables_1, d.before a0 Z = true) (ws : List Jvm.Cond) (a : Addr) (x : UInt64) (z : UInt64) (h0 : Heap) (n0 : Nat) (Z0 : n0 ≤ h0.size) (F1 : fd5 Z h0 a (.int (7 : Int32))) (F2 : fd6 Z h0 a (.double z)) (nn : ∀ k : Int32, 0 ≤ k.toInt → k.toInt ≤ 8 → NoNaN64 (FP.dmul (FP.i2d k) z) ∧ NoNaN64 (FP.dadd x (FP.dmul (FP.i2d k) z))) :
    MetFree l mn12 (head1 (Jvm.Cond.code mn12 prog_72_method_2_code 5 (some (.array .double)) :: ws) ({ frames := 0, cells := 1, slots := 7, locals := 0 } : Room)) (fun aA U => aA = #[(.ref a), (.double x)] ∧ Z.Warmed39 U.vm ∧ U.heap = h0) (fun _ _ _ _ _ => True) (fun _ U o U' => ∃ vR LR, o = .returned vR ∧ QrmV7 Z a x z h0 n0 vR U'.heap LR ∧ FrameEnd U o U' LR ({ frames := 0, cells := 1, slots := 7, locals := 0 } : Room).cells ({ frames := 0, cells := 1, slots := 7, locals := 0 } : Room).slots) := by
  refine MetFree.of_bodySF (plainFor_of_name pn_com_example_capwright_capwright_premise_ConstantAmountChange) hisR ?_
  intro p e s m args below meth c s₁ Bd hml0 hPre hKk
  obtain ⟨rfl, hZ, hh⟩ := hPre
  have hx := Bd.exec
  have hby := Bd.bytes
  have hml : c.maxLocals = 5 := hml0
  have hown : s.vm.findClass "com/example/capwright/capwright/premise/ConstantAmountChange" = some m.cls := findClass_of_methodNamed Bd.named
  have hnm := (name_of_methodNamed Bd.named Bd.method).1
  have X0 : Stand p l e ({ frames := 0, cells := 1, slots := 7, locals := 0 } : Room) s m #[(.ref a), (.double x)] below meth c s₁ [] 0 0 := Stand.of_body Bd
  have e0 : s₁.heap = h0 := by rw [← hh, Bd.state]; rfl
  have N0 := Fr.nil n0
  obtain ⟨E0, hE0⟩ : ∃ zE : State, zE = s₁.setTop (entryFrame m #[(.ref a), (.double x)] 5) := ⟨_, rfl⟩
  have k0 : own_G p e below E0 s₁ (mkF m 0 #[vr a, vd x, ss, uu, uu] []) := fun tz kz => hE0 ▸ castTop (ef_rmV7 m a x z) kz
  have K0 : Keep h0 h0 [] := Keep.refl _ _
  have k878 : own_G p e below E0 s₁ (mkF m 1 #[vr a, vd x, ss, uu, uu] [(.ref a)]) := by
    intro tQ kk
    refine k0 tQ ?_
    refine XS.aloadN X0.here hx rfl (hb hby d_prog_72_method_2_code_0) rfl rfl ?_
    exact kk
  clear k0
  obtain ⟨T879, X880, e881, st882⟩ := getF X0 hx hZ hown (host := "") (Or.inl (tw29 hw)) Via.refl e0 F1 (g := (mkF m 1 #[vr a, vd x, ss, uu, uu] [(.ref a)])) rfl rfl (hb hby d_prog_72_method_2_code_1)
  have k883 : own_G p e below E0 T879 (mkF m 4 #[vr a, vd x, ss, uu, uu] [(.int (7 : Int32))]) := fun tQ kk => k878 tQ (st882 _ kk)
  clear k878 st882
  obtain ⟨T884, h885, cA886, X887, e888, E889, A890, st891⟩ := newP (aty := .double) X880 hx hZ (tw38 hw) e881 (g := (mkF m 4 #[vr a, vd x, ss, uu, uu] [(.int (7 : Int32))])) rfl (hb hby d_prog_72_method_2_code_4) rfl (by decide) (cap := 7) (by decide) (by decide) (by decide) (by decide)
  obtain ⟨a892, g893⟩ : ∃ zA : Nat, zA = h0.size := ⟨_, rfl⟩
  rw [← g893] at A890 st891
  have n894 : a ≠ a892 := own_lt_ne F1.lt g893
  have n895 : a892 ≠ a := fun q => n894 q.symm
  have nw896 : h0.size ≤ a892 := own_ge_of K0.1 g893
  have ge897 : n0 ≤ a892 := own_ge_of Z0 g893
  have Z898 : n0 ≤ h885.size := Nat.le_trans Z0 E889.1
  have F899 : fd5 Z h885 a (.int (7 : Int32)) := F1.ext E889
  clear F1
  have F900 : fd6 Z h885 a (.double z) := F2.ext E889
  clear F2
  have K901 : Keep h0 h885 [] := K0.ext E889
  have F902 : own_A Z h885 a892 .double [(.double (0 : UInt64)), (.double (0 : UInt64)), (.double (0 : UInt64)), (.double (0 : UInt64)), (.double (0 : UInt64)), (.double (0 : UInt64)), (.double (0 : UInt64))] := own_A.new A890
  have k903 : own_G p e below E0 T884 (mkF m 6 #[vr a, vd x, ss, uu, uu] [(.ref a892)]) := fun tQ kk => k883 tQ (st891 _ kk)
  clear k883 st891
  have k904 : own_G p e below E0 T884 (mkF m 13 #[vr a, vd x, ss, vr a892, vi (1 : Int32)] [(.ref a), (.int (1 : Int32))]) := by
    intro tQ kk
    refine k903 tQ ?_
    refine XS.astoreN X887.here hx rfl (hb hby d_prog_72_method_2_code_6) rfl rfl (l' := #[vr a, vd x, ss, vr a892, uu]) rfl ?_
    refine XS.iconst X887.here hx rfl (hb hby d_prog_72_method_2_code_7) ?_
    refine XS.istore X887.here hx rfl (hb hby d_prog_72_method_2_code_8) rfl (l' := #[vr a, vd x, ss, vr a892, vi (1 : Int32)]) rfl ?_
    refine XS.iload X887.here hx rfl (hb hby d_prog_72_method_2_code_10) rfl ?_
    show Steps p.tables e below (T884.setTop (mkF m 12 #[vr a, vd x, ss, vr a892, vi (1 : Int32)] [(.int (1 : Int32))])) tQ
    refine XS.aloadN X887.here hx rfl (hb hby d_prog_72_method_2_code_12) rfl rfl ?_
    exact kk
  clear k903
  obtain ⟨T905, X906, e907, st908⟩ := getF X887 hx hZ hown (host := "") (Or.inl (tw29 hw)) Via.refl e888 F899 (g := (mkF m 13 #[vr a, vd x, ss, vr a892, vi (1 : Int32)] [(.ref a), (.int (1 : Int32))])) rfl rfl (hb hby d_prog_72_method_2_code_13)
  have k909 : own_G p e below E0 T905 (mkF m 16 #[vr a, vd x, ss, vr a892, vi (1 : Int32)] [(.int (7 : Int32)), (.int (1 : Int32))]) := fun tQ kk => k904 tQ (st908 _ kk)
  clear k904 st908
  have k910 : own_G p e below E0 T905 (mkF m 31 #[vr a, vd x, ss, vr a892, vi (1 : Int32)] [(.ref a), (.double (FP.i2d (0 : Int32))), (.double x), (.int (0 : Int32)), (.ref a892)]) := by
    intro tQ kk
    refine k909 tQ ?_
    refine XS.icmpNo X906.here hx rfl (hb hby d_prog_72_method_2_code_16) rfl (own_ic_gtN (by decide)) ?_
    refine XS.aloadN X906.here hx rfl (hb hby d_prog_72_method_2_code_19) rfl rfl ?_
    refine XS.iload X906.here hx rfl (hb hby d_prog_72_method_2_code_20) rfl ?_
    refine XS.iconst X906.here hx rfl (hb hby d_prog_72_method_2_code_22) ?_
    show Steps p.tables e below (T905.setTop (mkF m 23 #[vr a, vd x, ss, vr a892, vi (1 : Int32)] [(.int (1 : Int32)), (.int (1 : Int32)), (.ref a892)])) tQ
    refine XS.isub X906.here hx rfl (hb hby d_prog_72_method_2_code_23) rfl ?_
    refine XS.dloadN X906.here hx rfl (hb hby d_prog_72_method_2_code_24) rfl ?_
    refine XS.iload X906.here hx rfl (hb hby d_prog_72_method_2_code_25) rfl ?_
    refine XS.iconst X906.here hx rfl (hb hby d_prog_72_method_2_code_27) ?_
    show Steps p.tables e below (T905.setTop (mkF m 28 #[vr a, vd x, ss, vr a892, vi (1 : Int32)] [(.int (1 : Int32)), (.int (1 : Int32)), (.double x), (.int (0 : Int32)), (.ref a892)])) tQ
    refine XS.isub X906.here hx rfl (hb hby d_prog_72_method_2_code_28) rfl ?_
    refine XS.i2dS X906.here hx rfl (hb hby d_prog_72_method_2_code_29) rfl rfl ?_
    refine XS.aloadN X906.here hx rfl (hb hby d_prog_72_method_2_code_30) rfl rfl ?_
    exact kk
  clear k909
  obtain ⟨T911, X912, e913, st914⟩ := getF X906 hx hZ hown (host := "") (Or.inl (tw31 hw)) Via.refl e907 F900 (g := (mkF m 31 #[vr a, vd x, ss, vr a892, vi (1 : Int32)] [(.ref a), (.double (FP.i2d (0 : Int32))), (.double x), (.int (0 : Int32)), (.ref a892)])) rfl rfl (hb hby d_prog_72_method_2_code_31)
  have k915 : own_G p e below E0 T911 (mkF m 34 #[vr a, vd x, ss, vr a892, vi (1 : Int32)] [(.double z), (.double (FP.i2d (0 : Int32))), (.double x), (.int (0 : Int32)), (.ref a892)]) := fun tQ kk => k910 tQ (st914 _ kk)
  clear k910 st914
  have k916 : own_G p e below E0 T911 (mkF m 36 #[vr a, vd x, ss, vr a892, vi (1 : Int32)] [(.double (FP.dadd x (FP.dmul (FP.i2d (0 : Int32)) z))), (.int (0 : Int32)), (.ref a892)]) := by
    intro tQ kk
    refine k915 tQ ?_
    refine XS.dmulS X912.here hx rfl (hb hby d_prog_72_method_2_code_34) rfl (nn (0 : Int32) (by decide) (by decide)).1 rfl ?_
    refine XS.daddS X912.here hx rfl (hb hby d_prog_72_method_2_code_35) rfl (nn (0 : Int32) (by decide) (by decide)).2 rfl ?_
    exact kk
  clear k915
  obtain ⟨T917, h918, X919, e920, W921, F922, st923⟩ := own_A.dst X912 hx hZ e913 F902 (j := (0 : Int32)) (by decide) rfl (g := (mkF m 36 #[vr a, vd x, ss, vr a892, vi (1 : Int32)] [(.double (FP.dadd x (FP.dmul (FP.i2d (0 : Int32)) z))), (.int (0 : Int32)), (.ref a892)])) rfl rfl (hb hby d_prog_72_method_2_code_36)
  have N924 := Fr.snoc X919 N0 ge897
  have k925 : own_G p e below E0 T917 (mkF m 37 #[vr a, vd x, ss, vr a892, vi (1 : Int32)] []) := fun tQ kk => k916 tQ (st923 _ kk)
  clear k916 st923
  have F926 : fd5 Z h918 a (.int (7 : Int32)) := F899.other W921 (Or.inl n894)
  clear F899
  have F927 : fd6 Z h918 a (.double z) := F900.other W921 (Or.inl n894)
  clear F900
  have Z928 : n0 ≤ h918.size := by rw [W921.size]; exact Z898
  have K929 : Keep h0 h918 [] := K901.wr W921 (Or.inr nw896)
  have F930 : own_A Z h918 a892 .double [(.double (FP.dadd x (FP.dmul (FP.i2d (0 : Int32)) z))), (.double (0 : UInt64)), (.double (0 : UInt64)), (.double (0 : UInt64)), (.double (0 : UInt64)), (.double (0 : UInt64)), (.double (0 : UInt64))] := F922
  have k931 : own_G p e below E0 T917 (mkF m 13 #[vr a, vd x, ss, vr a892, vi (2 : Int32)] [(.ref a), (.int (2 : Int32))]) := by
    intro tQ kk
    refine k925 tQ ?_
    refine XS.iinc X919.here hx rfl (hb hby d_prog_72_method_2_code_37) rfl (l' := #[vr a, vd x, ss, vr a892, vi (2 : Int32)]) rfl ?_
    refine XS.goto X919.here hx rfl (pc0 := 40) (pc' := 10) rfl (hb hby d_prog_72_method_2_code_40) (by decide) (by decide) ?_
    refine XS.iload X919.here hx rfl (hb hby d_prog_72_method_2_code_10) rfl ?_
    refine XS.aloadN X919.here hx rfl (hb hby d_prog_72_method_2_code_12) rfl rfl ?_
    exact kk
  clear k925
  obtain ⟨T932, X933, e934, st935⟩ := getF X919 hx hZ hown (host := "") (Or.inl (tw29 hw)) Via.refl e920 F926 (g := (mkF m 13 #[vr a, vd x, ss, vr a892, vi (2 : Int32)] [(.ref a), (.int (2 : Int32))])) rfl rfl (hb hby d_prog_72_method_2_code_13)
  have k936 : own_G p e below E0 T932 (mkF m 16 #[vr a, vd x, ss, vr a892, vi (2 : Int32)] [(.int (7 : Int32)), (.int (2 : Int32))]) := fun tQ kk => k931 tQ (st935 _ kk)
  clear k931 st935
  have k937 : own_G p e below E0 T932 (mkF m 31 #[vr a, vd x, ss, vr a892, vi (2 : Int32)] [(.ref a), (.double (FP.i2d (1 : Int32))), (.double x), (.int (1 : Int32)), (.ref a892)]) := by
    intro tQ kk
    refine k936 tQ ?_
    refine XS.icmpNo X933.here hx rfl (hb hby d_prog_72_method_2_code_16) rfl (own_ic_gtN (by decide)) ?_
    refine XS.aloadN X933.here hx rfl (hb hby d_prog_72_method_2_code_19) rfl rfl ?_
    refine XS.iload X933.here hx rfl (hb hby d_prog_72_method_2_code_20) rfl ?_
    refine XS.iconst X933.here hx rfl (hb hby d_prog_72_method_2_code_22) ?_
    show Steps p.tables e below (T932.setTop (mkF m 23 #[vr a, vd x, ss, vr a892, vi (2 : Int32)] [(.int (1 : Int32)), (.int (2 : Int32)), (.ref a892)])) tQ
    refine XS.isub X933.here hx rfl (hb hby d_prog_72_method_2_code_23) rfl ?_
    refine XS.dloadN X933.here hx rfl (hb hby d_prog_72_method_2_code_24) rfl ?_
    refine XS.iload X933.here hx rfl (hb hby d_prog_72_method_2_code_25) rfl ?_
    refine XS.iconst X933.here hx rfl (hb hby d_prog_72_method_2_code_27) ?_
    show Steps p.tables e below (T932.setTop (mkF m 28 #[vr a, vd x, ss, vr a892, vi (2 : Int32)] [(.int (1 : Int32)), (.int (2 : Int32)), (.double x), (.int (1 : Int32)), (.ref a892)])) tQ
    refine XS.isub X933.here hx rfl (hb hby d_prog_72_method_2_code_28) rfl ?_
    refine XS.i2dS X933.here hx rfl (hb hby d_prog_72_method_2_code_29) rfl rfl ?_
    refine XS.aloadN X933.here hx rfl (hb hby d_prog_72_method_2_code_30) rfl rfl ?_
    exact kk
  clear k936
  obtain ⟨T938, X939, e940, st941⟩ := getF X933 hx hZ hown (host := "") (Or.inl (tw31 hw)) Via.refl e934 F927 (g := (mkF m 31 #[vr a, vd x, ss, vr a892, vi (2 : Int32)] [(.ref a), (.double (FP.i2d (1 : Int32))), (.double x), (.int (1 : Int32)), (.ref a892)])) rfl rfl (hb hby d_prog_72_method_2_code_31)
  have k942 : own_G p e below E0 T938 (mkF m 34 #[vr a, vd x, ss, vr a892, vi (2 : Int32)] [(.double z), (.double (FP.i2d (1 : Int32))), (.double x), (.int (1 : Int32)), (.ref a892)]) := fun tQ kk => k937 tQ (st941 _ kk)
  clear k937 st941
  have k943 : own_G p e below E0 T938 (mkF m 36 #[vr a, vd x, ss, vr a892, vi (2 : Int32)] [(.double (FP.dadd x (FP.dmul (FP.i2d (1 : Int32)) z))), (.int (1 : Int32)), (.ref a892)]) := by
    intro tQ kk
    refine k942 tQ ?_
    refine XS.dmulS X939.here hx rfl (hb hby d_prog_72_method_2_code_34) rfl (nn (1 : Int32) (by decide) (by decide)).1 rfl ?_
    refine XS.daddS X939.here hx rfl (hb hby d_prog_72_method_2_code_35) rfl (nn (1 : Int32) (by decide) (by decide)).2 rfl ?_
    exact kk
  clear k942
  obtain ⟨T944, h945, X946, e947, W948, F949, st950⟩ := own_A.dst X939 hx hZ e940 F930 (j := (1 : Int32)) (by decide) rfl (g := (mkF m 36 #[vr a, vd x, ss, vr a892, vi (2 : Int32)] [(.double (FP.dadd x (FP.dmul (FP.i2d (1 : Int32)) z))), (.int (1 : Int32)), (.ref a892)])) rfl rfl (hb hby d_prog_72_method_2_code_36)
  have N951 := Fr.snoc X946 N924 ge897
  have k952 : own_G p e below E0 T944 (mkF m 37 #[vr a, vd x, ss, vr a892, vi (2 : Int32)] []) := fun tQ kk => k943 tQ (st950 _ kk)
  clear k943 st950
  have F953 : fd5 Z h945 a (.int (7 : Int32)) := F926.other W948 (Or.inl n894)
  clear F926
  have F954 : fd6 Z h945 a (.double z) := F927.other W948 (Or.inl n894)
  clear F927
  have Z955 : n0 ≤ h945.size := by rw [W948.size]; exact Z928
  have K956 : Keep h0 h945 [] := K929.wr W948 (Or.inr nw896)
  have F957 : own_A Z h945 a892 .double [(.double (FP.dadd x (FP.dmul (FP.i2d (0 : Int32)) z))), (.double (FP.dadd x (FP.dmul (FP.i2d (1 : Int32)) z))), (.double (0 : UInt64)), (.double (0 : UInt64)), (.double (0 : UInt64)), (.double (0 : UInt64)), (.double (0 : UInt64))] := F949
  have k958 : own_G p e below E0 T944 (mkF m 13 #[vr a, vd x, ss, vr a892, vi (3 : Int32)] [(.ref a), (.int (3 : Int32))]) := by
    intro tQ kk
    refine k952 tQ ?_
    refine XS.iinc X946.here hx rfl (hb hby d_prog_72_method_2_code_37) rfl (l' := #[vr a, vd x, ss, vr a892, vi (3 : Int32)]) rfl ?_
    refine XS.goto X946.here hx rfl (pc0 := 40) (pc' := 10) rfl (hb hby d_prog_72_method_2_code_40) (by decide) (by decide) ?_
    refine XS.iload X946.here hx rfl (hb hby d_prog_72_method_2_code_10) rfl ?_
    refine XS.aloadN X946.here hx rfl (hb hby d_prog_72_method_2_code_12) rfl rfl ?_
    exact kk
  clear k952
  obtain ⟨T959, X960, e961, st962⟩ := getF X946 hx hZ hown (host := "") (Or.inl (tw29 hw)) Via.refl e947 F953 (g := (mkF m 13 #[vr a, vd x, ss, vr a892, vi (3 : Int32)] [(.ref a), (.int (3 : Int32))])) rfl rfl (hb hby d_prog_72_method_2_code_13)
  have k963 : own_G p e below E0 T959 (mkF m 16 #[vr a, vd x, ss, vr a892, vi (3 : Int32)] [(.int (7 : Int32)), (.int (3 : Int32))]) := fun tQ kk => k958 tQ (st962 _ kk)
  clear k958 st962
  have k964 : own_G p e below E0 T959 (mkF m 31 #[vr a, vd x, ss, vr a892, vi (3 : Int32)] [(.ref a), (.double (FP.i2d (2 : Int32))), (.double x), (.int (2 : Int32)), (.ref a892)]) := by
    intro tQ kk
    refine k963 tQ ?_
    refine XS.icmpNo X960.here hx rfl (hb hby d_prog_72_method_2_code_16) rfl (own_ic_gtN (by decide)) ?_
    refine XS.aloadN X960.here hx rfl (hb hby d_prog_72_method_2_code_19) rfl rfl ?_
    refine XS.iload X960.here hx rfl (hb hby d_prog_72_method_2_code_20) rfl ?_
    refine XS.iconst X960.here hx rfl (hb hby d_prog_72_method_2_code_22) ?_
    show Steps p.tables e below (T959.setTop (mkF m 23 #[vr a, vd x, ss, vr a892, vi (3 : Int32)] [(.int (1 : Int32)), (.int (3 : Int32)), (.ref a892)])) tQ
    refine XS.isub X960.here hx rfl (hb hby d_prog_72_method_2_code_23) rfl ?_
    refine XS.dloadN X960.here hx rfl (hb hby d_prog_72_method_2_code_24) rfl ?_
    refine XS.iload X960.here hx rfl (hb hby d_prog_72_method_2_code_25) rfl ?_
    refine XS.iconst X960.here hx rfl (hb hby d_prog_72_method_2_code_27) ?_
    show Steps p.tables e below (T959.setTop (mkF m 28 #[vr a, vd x, ss, vr a892, vi (3 : Int32)] [(.int (1 : Int32)), (.int (3 : Int32)), (.double x), (.int (2 : Int32)), (.ref a892)])) tQ
    refine XS.isub X960.here hx rfl (hb hby d_prog_72_method_2_code_28) rfl ?_
    refine XS.i2dS X960.here hx rfl (hb hby d_prog_72_method_2_code_29) rfl rfl ?_
    refine XS.aloadN X960.here hx rfl (hb hby d_prog_72_method_2_code_30) rfl rfl ?_
    exact kk
  clear k963
  obtain ⟨T965, X966, e967, st968⟩ := getF X960 hx hZ hown (host := "") (Or.inl (tw31 hw)) Via.refl e961 F954 (g := (mkF m 31 #[vr a, vd x, ss, vr a892, vi (3 : Int32)] [(.ref a), (.double (FP.i2d (2 : Int32))), (.double x), (.int (2 : Int32)), (.ref a892)])) rfl rfl (hb hby d_prog_72_method_2_code_31)
  have k969 : own_G p e below E0 T965 (mkF m 34 #[vr a, vd x, ss, vr a892, vi (3 : Int32)] [(.double z), (.double (FP.i2d (2 : Int32))), (.double x), (.int (2 : Int32)), (.ref a892)]) := fun tQ kk => k964 tQ (st968 _ kk)
  clear k964 st968
  have k970 : own_G p e below E0 T965 (mkF m 36 #[vr a, vd x, ss, vr a892, vi (3 : Int32)] [(.double (FP.dadd x (FP.dmul (FP.i2d (2 : Int32)) z))), (.int (2 : Int32)), (.ref a892)]) := by
    intro tQ kk
    refine k969 tQ ?_
    refine XS.dmulS X966.here hx rfl (hb hby d_prog_72_method_2_code_34) rfl (nn (2 : Int32) (by decide) (by decide)).1 rfl ?_
    refine XS.daddS X966.here hx rfl (hb hby d_prog_72_method_2_code_35) rfl (nn (2 : Int32) (by decide) (by decide)).2 rfl ?_
    exact kk
  clear k969
  obtain ⟨T971, h972, X973, e974, W975, F976, st977⟩ := own_A.dst X966 hx hZ e967 F957 (j := (2 : Int32)) (by decide) rfl (g := (mkF m 36 #[vr a, vd x, ss, vr a892, vi (3 : Int32)] [(.double (FP.dadd x (FP.dmul (FP.i2d (2 : Int32)) z))), (.int (2 : Int32)), (.ref a892)])) rfl rfl (hb hby d_prog_72_method_2_code_36)
  have N978 := Fr.snoc X973 N951 ge897
  have k979 : own_G p e below E0 T971 (mkF m 37 #[vr a, vd x, ss, vr a892, vi (3 : Int32)] []) := fun tQ kk => k970 tQ (st977 _ kk)
  clear k970 st977
  have F980 : fd5 Z h972 a (.int (7 : Int32)) := F953.other W975 (Or.inl n894)
  clear F953
  have F981 : fd6 Z h972 a (.double z) := F954.other W975 (Or.inl n894)
  clear F954
  have Z982 : n0 ≤ h972.size := by rw [W975.size]; exact Z955
  have K983 : Keep h0 h972 [] := K956.wr W975 (Or.inr nw896)
  have F984 : own_A Z h972 a892 .double [(.double (FP.dadd x (FP.dmul (FP.i2d (0 : Int32)) z))), (.double (FP.dadd x (FP.dmul (FP.i2d (1 : Int32)) z))), (.double (FP.dadd x (FP.dmul (FP.i2d (2 : Int32)) z))), (.double (0 : UInt64)), (.double (0 : UInt64)), (.double (0 : UInt64)), (.double (0 : UInt64))] := F976
  have k985 : own_G p e below E0 T971 (mkF m 13 #[vr a, vd x, ss, vr a892, vi (4 : Int32)] [(.ref a), (.int (4 : Int32))]) := by
    intro tQ kk
    refine k979 tQ ?_
    refine XS.iinc X973.here hx rfl (hb hby d_prog_72_method_2_code_37) rfl (l' := #[vr a, vd x, ss, vr a892, vi (4 : Int32)]) rfl ?_
    refine XS.goto X973.here hx rfl (pc0 := 40) (pc' := 10) rfl (hb hby d_prog_72_method_2_code_40) (by decide) (by decide) ?_
    refine XS.iload X973.here hx rfl (hb hby d_prog_72_method_2_code_10) rfl ?_
    refine XS.aloadN X973.here hx rfl (hb hby d_prog_72_method_2_code_12) rfl rfl ?_
    exact kk
  clear k979
  obtain ⟨T986, X987, e988, st989⟩ := getF X973 hx hZ hown (host := "") (Or.inl (tw29 hw)) Via.refl e974 F980 (g := (mkF m 13 #[vr a, vd x, ss, vr a892, vi (4 : Int32)] [(.ref a), (.int (4 : Int32))])) rfl rfl (hb hby d_prog_72_method_2_code_13)
  have k990 : own_G p e below E0 T986 (mkF m 16 #[vr a, vd x, ss, vr a892, vi (4 : Int32)] [(.int (7 : Int32)), (.int (4 : Int32))]) := fun tQ kk => k985 tQ (st989 _ kk)
  clear k985 st989
  have k991 : own_G p e below E0 T986 (mkF m 31 #[vr a, vd x, ss, vr a892, vi (4 : Int32)] [(.ref a), (.double (FP.i2d (3 : Int32))), (.double x), (.int (3 : Int32)), (.ref a892)]) := by
    intro tQ kk
    refine k990 tQ ?_
    refine XS.icmpNo X987.here hx rfl (hb hby d_prog_72_method_2_code_16) rfl (own_ic_gtN (by decide)) ?_
    refine XS.aloadN X987.here hx rfl (hb hby d_prog_72_method_2_code_19) rfl rfl ?_
    refine XS.iload X987.here hx rfl (hb hby d_prog_72_method_2_code_20) rfl ?_
    refine XS.iconst X987.here hx rfl (hb hby d_prog_72_method_2_code_22) ?_
    show Steps p.tables e below (T986.setTop (mkF m 23 #[vr a, vd x, ss, vr a892, vi (4 : Int32)] [(.int (1 : Int32)), (.int (4 : Int32)), (.ref a892)])) tQ
    refine XS.isub X987.here hx rfl (hb hby d_prog_72_method_2_code_23) rfl ?_
    refine XS.dloadN X987.here hx rfl (hb hby d_prog_72_method_2_code_24) rfl ?_
    refine XS.iload X987.here hx rfl (hb hby d_prog_72_method_2_code_25) rfl ?_
    refine XS.iconst X987.here hx rfl (hb hby d_prog_72_method_2_code_27) ?_
    show Steps p.tables e below (T986.setTop (mkF m 28 #[vr a, vd x, ss, vr a892, vi (4 : Int32)] [(.int (1 : Int32)), (.int (4 : Int32)), (.double x), (.int (3 : Int32)), (.ref a892)])) tQ
    refine XS.isub X987.here hx rfl (hb hby d_prog_72_method_2_code_28) rfl ?_
    refine XS.i2dS X987.here hx rfl (hb hby d_prog_72_method_2_code_29) rfl rfl ?_
    refine XS.aloadN X987.here hx rfl (hb hby d_prog_72_method_2_code_30) rfl rfl ?_
    exact kk
  clear k990
  obtain ⟨T992, X993, e994, st995⟩ := getF X987 hx hZ hown (host := "") (Or.inl (tw31 hw)) Via.refl e988 F981 (g := (mkF m 31 #[vr a, vd x, ss, vr a892, vi (4 : Int32)] [(.ref a), (.double (FP.i2d (3 : Int32))), (.double x), (.int (3 : Int32)), (.ref a892)])) rfl rfl (hb hby d_prog_72_method_2_code_31)
  have k996 : own_G p e below E0 T992 (mkF m 34 #[vr a, vd x, ss, vr a892, vi (4 : Int32)] [(.double z), (.double (FP.i2d (3 : Int32))), (.double x), (.int (3 : Int32)), (.ref a892)]) := fun tQ kk => k991 tQ (st995 _ kk)
  clear k991 st995
  have k997 : own_G p e below E0 T992 (mkF m 36 #[vr a, vd x, ss, vr a892, vi (4 : Int32)] [(.double (FP.dadd x (FP.dmul (FP.i2d (3 : Int32)) z))), (.int (3 : Int32)), (.ref a892)]) := by
    intro tQ kk
    refine k996 tQ ?_
    refine XS.dmulS X993.here hx rfl (hb hby d_prog_72_method_2_code_34) rfl (nn (3 : Int32) (by decide) (by decide)).1 rfl ?_
    refine XS.daddS X993.here hx rfl (hb hby d_prog_72_method_2_code_35) rfl (nn (3 : Int32) (by decide) (by decide)).2 rfl ?_
    exact kk
  clear k996
  obtain ⟨T998, h999, X1000, e1001, W1002, F1003, st1004⟩ := own_A.dst X993 hx hZ e994 F984 (j := (3 : Int32)) (by decide) rfl (g := (mkF m 36 #[vr a, vd x, ss, vr a892, vi (4 : Int32)] [(.double (FP.dadd x (FP.dmul (FP.i2d (3 : Int32)) z))), (.int (3 : Int32)), (.ref a892)])) rfl rfl (hb hby d_prog_72_method_2_code_36)
  have N1005 := Fr.snoc X1000 N978 ge897
  have k1006 : own_G p e below E0 T998 (mkF m 37 #[vr a, vd x, ss, vr a892, vi (4 : Int32)] []) := fun tQ kk => k997 tQ (st1004 _ kk)
  clear k997 st1004
  have F1007 : fd5 Z h999 a (.int (7 : Int32)) := F980.other W1002 (Or.inl n894)
  clear F980
  have F1008 : fd6 Z h999 a (.double z) := F981.other W1002 (Or.inl n894)
  clear F981
  have Z1009 : n0 ≤ h999.size := by rw [W1002.size]; exact Z982
  have K1010 : Keep h0 h999 [] := K983.wr W1002 (Or.inr nw896)
  have F1011 : own_A Z h999 a892 .double [(.double (FP.dadd x (FP.dmul (FP.i2d (0 : Int32)) z))), (.double (FP.dadd x (FP.dmul (FP.i2d (1 : Int32)) z))), (.double (FP.dadd x (FP.dmul (FP.i2d (2 : Int32)) z))), (.double (FP.dadd x (FP.dmul (FP.i2d (3 : Int32)) z))), (.double (0 : UInt64)), (.double (0 : UInt64)), (.double (0 : UInt64))] := F1003
  have k1012 : own_G p e below E0 T998 (mkF m 13 #[vr a, vd x, ss, vr a892, vi (5 : Int32)] [(.ref a), (.int (5 : Int32))]) := by
    intro tQ kk
    refine k1006 tQ ?_
    refine XS.iinc X1000.here hx rfl (hb hby d_prog_72_method_2_code_37) rfl (l' := #[vr a, vd x, ss, vr a892, vi (5 : Int32)]) rfl ?_
    refine XS.goto X1000.here hx rfl (pc0 := 40) (pc' := 10) rfl (hb hby d_prog_72_method_2_code_40) (by decide) (by decide) ?_
    refine XS.iload X1000.here hx rfl (hb hby d_prog_72_method_2_code_10) rfl ?_
    refine XS.aloadN X1000.here hx rfl (hb hby d_prog_72_method_2_code_12) rfl rfl ?_
    exact kk
  clear k1006
  obtain ⟨T1013, X1014, e1015, st1016⟩ := getF X1000 hx hZ hown (host := "") (Or.inl (tw29 hw)) Via.refl e1001 F1007 (g := (mkF m 13 #[vr a, vd x, ss, vr a892, vi (5 : Int32)] [(.ref a), (.int (5 : Int32))])) rfl rfl (hb hby d_prog_72_method_2_code_13)
  have k1017 : own_G p e below E0 T1013 (mkF m 16 #[vr a, vd x, ss, vr a892, vi (5 : Int32)] [(.int (7 : Int32)), (.int (5 : Int32))]) := fun tQ kk => k1012 tQ (st1016 _ kk)
  clear k1012 st1016
  have k1018 : own_G p e below E0 T1013 (mkF m 31 #[vr a, vd x, ss, vr a892, vi (5 : Int32)] [(.ref a), (.double (FP.i2d (4 : Int32))), (.double x), (.int (4 : Int32)), (.ref a892)]) := by
    intro tQ kk
    refine k1017 tQ ?_
    refine XS.icmpNo X1014.here hx rfl (hb hby d_prog_72_method_2_code_16) rfl (own_ic_gtN (by decide)) ?_
    refine XS.aloadN X1014.here hx rfl (hb hby d_prog_72_method_2_code_19) rfl rfl ?_
    refine XS.iload X1014.here hx rfl (hb hby d_prog_72_method_2_code_20) rfl ?_
    refine XS.iconst X1014.here hx rfl (hb hby d_prog_72_method_2_code_22) ?_
    show Steps p.tables e below (T1013.setTop (mkF m 23 #[vr a, vd x, ss, vr a892, vi (5 : Int32)] [(.int (1 : Int32)), (.int (5 : Int32)), (.ref a892)])) tQ
    refine XS.isub X1014.here hx rfl (hb hby d_prog_72_method_2_code_23) rfl ?_
    refine XS.dloadN X1014.here hx rfl (hb hby d_prog_72_method_2_code_24) rfl ?_
    refine XS.iload X1014.here hx rfl (hb hby d_prog_72_method_2_code_25) rfl ?_
    refine XS.iconst X1014.here hx rfl (hb hby d_prog_72_method_2_code_27) ?_
    show Steps p.tables e below (T1013.setTop (mkF m 28 #[vr a, vd x, ss, vr a892, vi (5 : Int32)] [(.int (1 : Int32)), (.int (5 : Int32)), (.double x), (.int (4 : Int32)), (.ref a892)])) tQ
    refine XS.isub X1014.here hx rfl (hb hby d_prog_72_method_2_code_28) rfl ?_
    refine XS.i2dS X1014.here hx rfl (hb hby d_prog_72_method_2_code_29) rfl rfl ?_
    refine XS.aloadN X1014.here hx rfl (hb hby d_prog_72_method_2_code_30) rfl rfl ?_
    exact kk
  clear k1017
  obtain ⟨T1019, X1020, e1021, st1022⟩ := getF X1014 hx hZ hown (host := "") (Or.inl (tw31 hw)) Via.refl e1015 F1008 (g := (mkF m 31 #[vr a, vd x, ss, vr a892, vi (5 : Int32)] [(.ref a), (.double (FP.i2d (4 : Int32))), (.double x), (.int (4 : Int32)), (.ref a892)])) rfl rfl (hb hby d_prog_72_method_2_code_31)
  have k1023 : own_G p e below E0 T1019 (mkF m 34 #[vr a, vd x, ss, vr a892, vi (5 : Int32)] [(.double z), (.double (FP.i2d (4 : Int32))), (.double x), (.int (4 : Int32)), (.ref a892)]) := fun tQ kk => k1018 tQ (st1022 _ kk)
  clear k1018 st1022
  have k1024 : own_G p e below E0 T1019 (mkF m 36 #[vr a, vd x, ss, vr a892, vi (5 : Int32)] [(.double (FP.dadd x (FP.dmul (FP.i2d (4 : Int32)) z))), (.int (4 : Int32)), (.ref a892)]) := by
    intro tQ kk
    refine k1023 tQ ?_
    refine XS.dmulS X1020.here hx rfl (hb hby d_prog_72_method_2_code_34) rfl (nn (4 : Int32) (by decide) (by decide)).1 rfl ?_
    refine XS.daddS X1020.here hx rfl (hb hby d_prog_72_method_2_code_35) rfl (nn (4 : Int32) (by decide) (by decide)).2 rfl ?_
    exact kk
  clear k1023
  obtain ⟨T1025, h1026, X1027, e1028, W1029, F1030, st1031⟩ := own_A.dst X1020 hx hZ e1021 F1011 (j := (4 : Int32)) (by decide) rfl (g := (mkF m 36 #[vr a, vd x, ss, vr a892, vi (5 : Int32)] [(.double (FP.dadd x (FP.dmul (FP.i2d (4 : Int32)) z))), (.int (4 : Int32)), (.ref a892)])) rfl rfl (hb hby d_prog_72_method_2_code_36)
  have N1032 := Fr.snoc X1027 N1005 ge897
  have k1033 : own_G p e below E0 T1025 (mkF m 37 #[vr a, vd x, ss, vr a892, vi (5 : Int32)] []) := fun tQ kk => k1024 tQ (st1031 _ kk)
  clear k1024 st1031
  have F1034 : fd5 Z h1026 a (.int (7 : Int32)) := F1007.other W1029 (Or.inl n894)
  clear F1007
  have F1035 : fd6 Z h1026 a (.double z) := F1008.other W1029 (Or.inl n894)
  clear F1008
  have Z1036 : n0 ≤ h1026.size := by rw [W1029.size]; exact Z1009
  have K1037 : Keep h0 h1026 [] := K1010.wr W1029 (Or.inr nw896)
  have F1038 : own_A Z h1026 a892 .double [(.double (FP.dadd x (FP.dmul (FP.i2d (0 : Int32)) z))), (.double (FP.dadd x (FP.dmul (FP.i2d (1 : Int32)) z))), (.double (FP.dadd x (FP.dmul (FP.i2d (2 : Int32)) z))), (.double (FP.dadd x (FP.dmul (FP.i2d (3 : Int32)) z))), (.double (FP.dadd x (FP.dmul (FP.i2d (4 : Int32)) z))), (.double (0 : UInt64)), (.double (0 : UInt64))] := F1030
  have k1039 : own_G p e below E0 T1025 (mkF m 13 #[vr a, vd x, ss, vr a892, vi (6 : Int32)] [(.ref a), (.int (6 : Int32))]) := by
    intro tQ kk
    refine k1033 tQ ?_
    refine XS.iinc X1027.here hx rfl (hb hby d_prog_72_method_2_code_37) rfl (l' := #[vr a, vd x, ss, vr a892, vi (6 : Int32)]) rfl ?_
    refine XS.goto X1027.here hx rfl (pc0 := 40) (pc' := 10) rfl (hb hby d_prog_72_method_2_code_40) (by decide) (by decide) ?_
    refine XS.iload X1027.here hx rfl (hb hby d_prog_72_method_2_code_10) rfl ?_
    refine XS.aloadN X1027.here hx rfl (hb hby d_prog_72_method_2_code_12) rfl rfl ?_
    exact kk
  clear k1033
  obtain ⟨T1040, X1041, e1042, st1043⟩ := getF X1027 hx hZ hown (host := "") (Or.inl (tw29 hw)) Via.refl e1028 F1034 (g := (mkF m 13 #[vr a, vd x, ss, vr a892, vi (6 : Int32)] [(.ref a), (.int (6 : Int32))])) rfl rfl (hb hby d_prog_72_method_2_code_13)
  have k1044 : own_G p e below E0 T1040 (mkF m 16 #[vr a, vd x, ss, vr a892, vi (6 : Int32)] [(.int (7 : Int32)), (.int (6 : Int32))]) := fun tQ kk => k1039 tQ (st1043 _ kk)
  clear k1039 st1043
  have k1045 : own_G p e below E0 T1040 (mkF m 31 #[vr a, vd x, ss, vr a892, vi (6 : Int32)] [(.ref a), (.double (FP.i2d (5 : Int32))), (.double x), (.int (5 : Int32)), (.ref a892)]) := by
    intro tQ kk
    refine k1044 tQ ?_
    refine XS.icmpNo X1041.here hx rfl (hb hby d_prog_72_method_2_code_16) rfl (own_ic_gtN (by decide)) ?_
    refine XS.aloadN X1041.here hx rfl (hb hby d_prog_72_method_2_code_19) rfl rfl ?_
    refine XS.iload X1041.here hx rfl (hb hby d_prog_72_method_2_code_20) rfl ?_
    refine XS.iconst X1041.here hx rfl (hb hby d_prog_72_method_2_code_22) ?_
    show Steps p.tables e below (T1040.setTop (mkF m 23 #[vr a, vd x, ss, vr a892, vi (6 : Int32)] [(.int (1 : Int32)), (.int (6 : Int32)), (.ref a892)])) tQ
    refine XS.isub X1041.here hx rfl (hb hby d_prog_72_method_2_code_23) rfl ?_
    refine XS.dloadN X1041.here hx rfl (hb hby d_prog_72_method_2_code_24) rfl ?_
    refine XS.iload X1041.here hx rfl (hb hby d_prog_72_method_2_code_25) rfl ?_
    refine XS.iconst X1041.here hx rfl (hb hby d_prog_72_method_2_code_27) ?_
    show Steps p.tables e below (T1040.setTop (mkF m 28 #[vr a, vd x, ss, vr a892, vi (6 : Int32)] [(.int (1 : Int32)), (.int (6 : Int32)), (.double x), (.int (5 : Int32)), (.ref a892)])) tQ
    refine XS.isub X1041.here hx rfl (hb hby d_prog_72_method_2_code_28) rfl ?_
    refine XS.i2dS X1041.here hx rfl (hb hby d_prog_72_method_2_code_29) rfl rfl ?_
    refine XS.aloadN X1041.here hx rfl (hb hby d_prog_72_method_2_code_30) rfl rfl ?_
    exact kk
  clear k1044
  obtain ⟨T1046, X1047, e1048, st1049⟩ := getF X1041 hx hZ hown (host := "") (Or.inl (tw31 hw)) Via.refl e1042 F1035 (g := (mkF m 31 #[vr a, vd x, ss, vr a892, vi (6 : Int32)] [(.ref a), (.double (FP.i2d (5 : Int32))), (.double x), (.int (5 : Int32)), (.ref a892)])) rfl rfl (hb hby d_prog_72_method_2_code_31)
  have k1050 : own_G p e below E0 T1046 (mkF m 34 #[vr a, vd x, ss, vr a892, vi (6 : Int32)] [(.double z), (.double (FP.i2d (5 : Int32))), (.double x), (.int (5 : Int32)), (.ref a892)]) := fun tQ kk => k1045 tQ (st1049 _ kk)
  clear k1045 st1049
  have k1051 : own_G p e below E0 T1046 (mkF m 36 #[vr a, vd x, ss, vr a892, vi (6 : Int32)] [(.double (FP.dadd x (FP.dmul (FP.i2d (5 : Int32)) z))), (.int (5 : Int32)), (.ref a892)]) := by
    intro tQ kk
    refine k1050 tQ ?_
    refine XS.dmulS X1047.here hx rfl (hb hby d_prog_72_method_2_code_34) rfl (nn (5 : Int32) (by decide) (by decide)).1 rfl ?_
    refine XS.daddS X1047.here hx rfl (hb hby d_prog_72_method_2_code_35) rfl (nn (5 : Int32) (by decide) (by decide)).2 rfl ?_
    exact kk
  clear k1050
  obtain ⟨T1052, h1053, X1054, e1055, W1056, F1057, st1058⟩ := own_A.dst X1047 hx hZ e1048 F1038 (j := (5 : Int32)) (by decide) rfl (g := (mkF m 36 #[vr a, vd x, ss, vr a892, vi (6 : Int32)] [(.double (FP.dadd x (FP.dmul (FP.i2d (5 : Int32)) z))), (.int (5 : Int32)), (.ref a892)])) rfl rfl (hb hby d_prog_72_method_2_code_36)
  have N1059 := Fr.snoc X1054 N1032 ge897
  have k1060 : own_G p e below E0 T1052 (mkF m 37 #[vr a, vd x, ss, vr a892, vi (6 : Int32)] []) := fun tQ kk => k1051 tQ (st1058 _ kk)
  clear k1051 st1058
  have F1061 : fd5 Z h1053 a (.int (7 : Int32)) := F1034.other W1056 (Or.inl n894)
  clear F1034
  have F1062 : fd6 Z h1053 a (.double z) := F1035.other W1056 (Or.inl n894)
  clear F1035
  have Z1063 : n0 ≤ h1053.size := by rw [W1056.size]; exact Z1036
  have K1064 : Keep h0 h1053 [] := K1037.wr W1056 (Or.inr nw896)
  have F1065 : own_A Z h1053 a892 .double [(.double (FP.dadd x (FP.dmul (FP.i2d (0 : Int32)) z))), (.double (FP.dadd x (FP.dmul (FP.i2d (1 : Int32)) z))), (.double (FP.dadd x (FP.dmul (FP.i2d (2 : Int32)) z))), (.double (FP.dadd x (FP.dmul (FP.i2d (3 : Int32)) z))), (.double (FP.dadd x (FP.dmul (FP.i2d (4 : Int32)) z))), (.double (FP.dadd x (FP.dmul (FP.i2d (5 : Int32)) z))), (.double (0 : UInt64))] := F1057
  have k1066 : own_G p e below E0 T1052 (mkF m 13 #[vr a, vd x, ss, vr a892, vi (7 : Int32)] [(.ref a), (.int (7 : Int32))]) := by
    intro tQ kk
    refine k1060 tQ ?_
    refine XS.iinc X1054.here hx rfl (hb hby d_prog_72_method_2_code_37) rfl (l' := #[vr a, vd x, ss, vr a892, vi (7 : Int32)]) rfl ?_
    refine XS.goto X1054.here hx rfl (pc0 := 40) (pc' := 10) rfl (hb hby d_prog_72_method_2_code_40) (by decide) (by decide) ?_
    refine XS.iload X1054.here hx rfl (hb hby d_prog_72_method_2_code_10) rfl ?_
    refine XS.aloadN X1054.here hx rfl (hb hby d_prog_72_method_2_code_12) rfl rfl ?_
    exact kk
  clear k1060
  obtain ⟨T1067, X1068, e1069, st1070⟩ := getF X1054 hx hZ hown (host := "") (Or.inl (tw29 hw)) Via.refl e1055 F1061 (g := (mkF m 13 #[vr a, vd x, ss, vr a892, vi (7 : Int32)] [(.ref a), (.int (7 : Int32))])) rfl rfl (hb hby d_prog_72_method_2_code_13)
  have k1071 : own_G p e below E0 T1067 (mkF m 16 #[vr a, vd x, ss, vr a892, vi (7 : Int32)] [(.int (7 : Int32)), (.int (7 : Int32))]) := fun tQ kk => k1066 tQ (st1070 _ kk)
  clear k1066 st1070
  have k1072 : own_G p e below E0 T1067 (mkF m 31 #[vr a, vd x, ss, vr a892, vi (7 : Int32)] [(.ref a), (.double (FP.i2d (6 : Int32))), (.double x), (.int (6 : Int32)), (.ref a892)]) := by
    intro tQ kk
    refine k1071 tQ ?_
    refine XS.icmpNo X1068.here hx rfl (hb hby d_prog_72_method_2_code_16) rfl (own_ic_gtN (by decide)) ?_
    refine XS.aloadN X1068.here hx rfl (hb hby d_prog_72_method_2_code_19) rfl rfl ?_
    refine XS.iload X1068.here hx rfl (hb hby d_prog_72_method_2_code_20) rfl ?_
    refine XS.iconst X1068.here hx rfl (hb hby d_prog_72_method_2_code_22) ?_
    show Steps p.tables e below (T1067.setTop (mkF m 23 #[vr a, vd x, ss, vr a892, vi (7 : Int32)] [(.int (1 : Int32)), (.int (7 : Int32)), (.ref a892)])) tQ
    refine XS.isub X1068.here hx rfl (hb hby d_prog_72_method_2_code_23) rfl ?_
    refine XS.dloadN X1068.here hx rfl (hb hby d_prog_72_method_2_code_24) rfl ?_
    refine XS.iload X1068.here hx rfl (hb hby d_prog_72_method_2_code_25) rfl ?_
    refine XS.iconst X1068.here hx rfl (hb hby d_prog_72_method_2_code_27) ?_
    show Steps p.tables e below (T1067.setTop (mkF m 28 #[vr a, vd x, ss, vr a892, vi (7 : Int32)] [(.int (1 : Int32)), (.int (7 : Int32)), (.double x), (.int (6 : Int32)), (.ref a892)])) tQ
    refine XS.isub X1068.here hx rfl (hb hby d_prog_72_method_2_code_28) rfl ?_
    refine XS.i2dS X1068.here hx rfl (hb hby d_prog_72_method_2_code_29) rfl rfl ?_
    refine XS.aloadN X1068.here hx rfl (hb hby d_prog_72_method_2_code_30) rfl rfl ?_
    exact kk
  clear k1071
  obtain ⟨T1073, X1074, e1075, st1076⟩ := getF X1068 hx hZ hown (host := "") (Or.inl (tw31 hw)) Via.refl e1069 F1062 (g := (mkF m 31 #[vr a, vd x, ss, vr a892, vi (7 : Int32)] [(.ref a), (.double (FP.i2d (6 : Int32))), (.double x), (.int (6 : Int32)), (.ref a892)])) rfl rfl (hb hby d_prog_72_method_2_code_31)
  have k1077 : own_G p e below E0 T1073 (mkF m 34 #[vr a, vd x, ss, vr a892, vi (7 : Int32)] [(.double z), (.double (FP.i2d (6 : Int32))), (.double x), (.int (6 : Int32)), (.ref a892)]) := fun tQ kk => k1072 tQ (st1076 _ kk)
  clear k1072 st1076
  have k1078 : own_G p e below E0 T1073 (mkF m 36 #[vr a, vd x, ss, vr a892, vi (7 : Int32)] [(.double (FP.dadd x (FP.dmul (FP.i2d (6 : Int32)) z))), (.int (6 : Int32)), (.ref a892)]) := by
    intro tQ kk
    refine k1077 tQ ?_
    refine XS.dmulS X1074.here hx rfl (hb hby d_prog_72_method_2_code_34) rfl (nn (6 : Int32) (by decide) (by decide)).1 rfl ?_
    refine XS.daddS X1074.here hx rfl (hb hby d_prog_72_method_2_code_35) rfl (nn (6 : Int32) (by decide) (by decide)).2 rfl ?_
    exact kk
  clear k1077
  obtain ⟨T1079, h1080, X1081, e1082, W1083, F1084, st1085⟩ := own_A.dst X1074 hx hZ e1075 F1065 (j := (6 : Int32)) (by decide) rfl (g := (mkF m 36 #[vr a, vd x, ss, vr a892, vi (7 : Int32)] [(.double (FP.dadd x (FP.dmul (FP.i2d (6 : Int32)) z))), (.int (6 : Int32)), (.ref a892)])) rfl rfl (hb hby d_prog_72_method_2_code_36)
  have N1086 := Fr.snoc X1081 N1059 ge897
  have k1087 : own_G p e below E0 T1079 (mkF m 37 #[vr a, vd x, ss, vr a892, vi (7 : Int32)] []) := fun tQ kk => k1078 tQ (st1085 _ kk)
  clear k1078 st1085
  have F1088 : fd5 Z h1080 a (.int (7 : Int32)) := F1061.other W1083 (Or.inl n894)
  clear F1061
  have F1089 : fd6 Z h1080 a (.double z) := F1062.other W1083 (Or.inl n894)
  clear F1062
  have Z1090 : n0 ≤ h1080.size := by rw [W1083.size]; exact Z1063
  have K1091 : Keep h0 h1080 [] := K1064.wr W1083 (Or.inr nw896)
  have F1092 : own_A Z h1080 a892 .double [(.double (FP.dadd x (FP.dmul (FP.i2d (0 : Int32)) z))), (.double (FP.dadd x (FP.dmul (FP.i2d (1 : Int32)) z))), (.double (FP.dadd x (FP.dmul (FP.i2d (2 : Int32)) z))), (.double (FP.dadd x (FP.dmul (FP.i2d (3 : Int32)) z))), (.double (FP.dadd x (FP.dmul (FP.i2d (4 : Int32)) z))), (.double (FP.dadd x (FP.dmul (FP.i2d (5 : Int32)) z))), (.double (FP.dadd x (FP.dmul (FP.i2d (6 : Int32)) z)))] := F1084
  have k1093 : own_G p e below E0 T1079 (mkF m 13 #[vr a, vd x, ss, vr a892, vi (8 : Int32)] [(.ref a), (.int (8 : Int32))]) := by
    intro tQ kk
    refine k1087 tQ ?_
    refine XS.iinc X1081.here hx rfl (hb hby d_prog_72_method_2_code_37) rfl (l' := #[vr a, vd x, ss, vr a892, vi (8 : Int32)]) rfl ?_
    refine XS.goto X1081.here hx rfl (pc0 := 40) (pc' := 10) rfl (hb hby d_prog_72_method_2_code_40) (by decide) (by decide) ?_
    refine XS.iload X1081.here hx rfl (hb hby d_prog_72_method_2_code_10) rfl ?_
    refine XS.aloadN X1081.here hx rfl (hb hby d_prog_72_method_2_code_12) rfl rfl ?_
    exact kk
  clear k1087
  obtain ⟨T1094, X1095, e1096, st1097⟩ := getF X1081 hx hZ hown (host := "") (Or.inl (tw29 hw)) Via.refl e1082 F1088 (g := (mkF m 13 #[vr a, vd x, ss, vr a892, vi (8 : Int32)] [(.ref a), (.int (8 : Int32))])) rfl rfl (hb hby d_prog_72_method_2_code_13)
  have k1098 : own_G p e below E0 T1094 (mkF m 16 #[vr a, vd x, ss, vr a892, vi (8 : Int32)] [(.int (7 : Int32)), (.int (8 : Int32))]) := fun tQ kk => k1093 tQ (st1097 _ kk)
  clear k1093 st1097
  have k1099 : own_G p e below E0 T1094 (mkF m 44 #[vr a, vd x, ss, vr a892, vi (8 : Int32)] [(.ref a892)]) := by
    intro tQ kk
    refine k1098 tQ ?_
    refine XS.icmpYes X1095.here hx rfl (pc0 := 16) (pc' := 43) rfl (hb hby d_prog_72_method_2_code_16) rfl (own_ic_gtY (by decide)) (by decide) (by decide) ?_
    refine XS.aloadN X1095.here hx rfl (hb hby d_prog_72_method_2_code_43) rfl rfl ?_
    exact kk
  clear k1098
  obtain ⟨fs, hr, hrun, hended, hW, hsame⟩ := X1095.leave (v := some (.ref a892)) (fun h => by rw [Bd.returns] at h; cases h)
  have hrun0 := k1099 _ (retOut X1095 hx Bd.returns (t := (.array .double)) rfl (Or.inr (Or.inr (Or.inr (Or.inr ⟨rfl, rfl, rfl⟩)))) (hb hby d_prog_72_method_2_code_44) hr)
  subst hE0
  refine ⟨_, _, hrun0, hrun, hended, _, _, rfl, ?_, ⟨_, rfl⟩, hW, hsame.mono (by decide) (by decide)⟩
  show QrmV7 Z a x z h0 n0 _ T1094.heap _
  rw [e1096]
  exact ⟨a892, rfl, N1086, K1091, F1092⟩
def QrmV8 (Z : State) (a : Addr) (x : UInt64) (z : UInt64) (h0 : Heap) (n0 : Nat) (vQ : Option Value) (hQ : Heap) (LQ : List Loc) : Prop := ∃ (r : Addr), vQ = some (.ref r) ∧ Fr n0 LQ ∧ Keep h0 hQ [] ∧ (own_A Z hQ r .double [(.double (FP.dadd x (FP.dmul (FP.i2d (0 : Int32)) z))), (.double (FP.dadd x (FP.dmul (FP.i2d (1 : Int32)) z))), (.double (FP.dadd x (FP.dmul (FP.i2d (2 : Int32)) z))), (.double (FP.dadd x (FP.dmul (FP.i2d (3 : Int32)) z))), (.double (FP.dadd x (FP.dmul (FP.i2d (4 : Int32)) z))), (.double (FP.dadd x (FP.dmul (FP.i2d (5 : Int32)) z))), (.double (FP.dadd x (FP.dmul (FP.i2d (6 : Int32)) z))), (.double (FP.dadd x (FP.dmul (FP.i2d (7 : Int32)) z)))])
theorem ef_rmV8 (m : MethodId) (a : Addr) (x : UInt64) (z : UInt64) : entryFrame m #[(.ref a), (.double x)] 5 = mkF m 0 #[vr a, vd x, ss, uu, uu] [] := by first | (simp [entryFrame, mkF, argsToLocals, Value.category]; done) | rfl
set_option maxRecDepth 65536 in
set_option maxHeartbeats 40000000 in
theorem rmV8 (l : Launch) (Z : State) (a0 : Array Value) (hw : ∀ d ∈ tables_1, d.before a0 Z = true) (ws : List Jvm.Cond) (a : Addr) (x : UInt64) (z : UInt64) (h0 : Heap) (n0 : Nat) (Z0 : n0 ≤ h0.size) (F1 : fd5 Z h0 a (.int (8 : Int32))) (F2 : fd6 Z h0 a (.double z)) (nn : ∀ k : Int32, 0 ≤ k.toInt → k.toInt ≤ 8 → NoNaN64 (FP.dmul (FP.i2d k) z) ∧ NoNaN64 (FP.dadd x (FP.dmul (FP.i2d k) z))) :
    MetFree l mn12 (head1 (Jvm.Cond.code mn12 prog_72_method_2_code 5 (some (.array .double)) :: ws) ({ frames := 0, cells := 1, slots := 8, locals := 0 } : Room)) (fun aA U => aA = #[(.ref a), (.double x)] ∧ Z.Warmed39 U.vm ∧ U.heap = h0) (fun _ _ _ _ _ => True) (fun _ U o U' => ∃ vR LR, o = .returned vR ∧ QrmV8 Z a x z h0 n0 vR U'.heap LR ∧ FrameEnd U o U' LR ({ frames := 0, cells := 1, slots := 8, locals := 0 } : Room).cells ({ frames := 0, cells := 1, slots := 8, locals := 0 } : Room).slots) := by
  refine MetFree.of_bodySF (plainFor_of_name pn_com_example_capwright_capwright_premise_ConstantAmountChange) hisR ?_
  intro p e s m args below meth c s₁ Bd hml0 hPre hKk
  obtain ⟨rfl, hZ, hh⟩ := hPre
  have hx := Bd.exec
  have hby := Bd.bytes
  have hml : c.maxLocals = 5 := hml0
  have hown : s.vm.findClass "com/example/capwright/capwright/premise/ConstantAmountChange" = some m.cls := findClass_of_methodNamed Bd.named
  have hnm := (name_of_methodNamed Bd.named Bd.method).1
  have X0 : Stand p l e ({ frames := 0, cells := 1, slots := 8, locals := 0 } : Room) s m #[(.ref a), (.double x)] below meth c s₁ [] 0 0 := Stand.of_body Bd
  have e0 : s₁.heap = h0 := by rw [← hh, Bd.state]; rfl
  have N0 := Fr.nil n0
  obtain ⟨E0, hE0⟩ : ∃ zE : State, zE = s₁.setTop (entryFrame m #[(.ref a), (.double x)] 5) := ⟨_, rfl⟩
  have k0 : own_G p e below E0 s₁ (mkF m 0 #[vr a, vd x, ss, uu, uu] []) := fun tz kz => hE0 ▸ castTop (ef_rmV8 m a x z) kz
  have K0 : Keep h0 h0 [] := Keep.refl _ _
  have k1100 : own_G p e below E0 s₁ (mkF m 1 #[vr a, vd x, ss, uu, uu] [(.ref a)]) := by
    intro tQ kk
    refine k0 tQ ?_
    refine XS.aloadN X0.here hx rfl (hb hby d_prog_72_method_2_code_0) rfl rfl ?_
    exact kk
  clear k0
  obtain ⟨T1101, X1102, e1103, st1104⟩ := getF X0 hx hZ hown (host := "") (Or.inl (tw29 hw)) Via.refl e0 F1 (g := (mkF m 1 #[vr a, vd x, ss, uu, uu] [(.ref a)])) rfl rfl (hb hby d_prog_72_method_2_code_1)
  have k1105 : own_G p e below E0 T1101 (mkF m 4 #[vr a, vd x, ss, uu, uu] [(.int (8 : Int32))]) := fun tQ kk => k1100 tQ (st1104 _ kk)
  clear k1100 st1104
  obtain ⟨T1106, h1107, cA1108, X1109, e1110, E1111, A1112, st1113⟩ := newP (aty := .double) X1102 hx hZ (tw38 hw) e1103 (g := (mkF m 4 #[vr a, vd x, ss, uu, uu] [(.int (8 : Int32))])) rfl (hb hby d_prog_72_method_2_code_4) rfl (by decide) (cap := 8) (by decide) (by decide) (by decide) (by decide)
  obtain ⟨a1114, g1115⟩ : ∃ zA : Nat, zA = h0.size := ⟨_, rfl⟩
  rw [← g1115] at A1112 st1113
  have n1116 : a ≠ a1114 := own_lt_ne F1.lt g1115
  have n1117 : a1114 ≠ a := fun q => n1116 q.symm
  have nw1118 : h0.size ≤ a1114 := own_ge_of K0.1 g1115
  have ge1119 : n0 ≤ a1114 := own_ge_of Z0 g1115
  have Z1120 : n0 ≤ h1107.size := Nat.le_trans Z0 E1111.1
  have F1121 : fd5 Z h1107 a (.int (8 : Int32)) := F1.ext E1111
  clear F1
  have F1122 : fd6 Z h1107 a (.double z) := F2.ext E1111
  clear F2
  have K1123 : Keep h0 h1107 [] := K0.ext E1111
  have F1124 : own_A Z h1107 a1114 .double [(.double (0 : UInt64)), (.double (0 : UInt64)), (.double (0 : UInt64)), (.double (0 : UInt64)), (.double (0 : UInt64)), (.double (0 : UInt64)), (.double (0 : UInt64)), (.double (0 : UInt64))] := own_A.new A1112
  have k1125 : own_G p e below E0 T1106 (mkF m 6 #[vr a, vd x, ss, uu, uu] [(.ref a1114)]) := fun tQ kk => k1105 tQ (st1113 _ kk)
  clear k1105 st1113
  have k1126 : own_G p e below E0 T1106 (mkF m 13 #[vr a, vd x, ss, vr a1114, vi (1 : Int32)] [(.ref a), (.int (1 : Int32))]) := by
    intro tQ kk
    refine k1125 tQ ?_
    refine XS.astoreN X1109.here hx rfl (hb hby d_prog_72_method_2_code_6) rfl rfl (l' := #[vr a, vd x, ss, vr a1114, uu]) rfl ?_
    refine XS.iconst X1109.here hx rfl (hb hby d_prog_72_method_2_code_7) ?_
    refine XS.istore X1109.here hx rfl (hb hby d_prog_72_method_2_code_8) rfl (l' := #[vr a, vd x, ss, vr a1114, vi (1 : Int32)]) rfl ?_
    refine XS.iload X1109.here hx rfl (hb hby d_prog_72_method_2_code_10) rfl ?_
    show Steps p.tables e below (T1106.setTop (mkF m 12 #[vr a, vd x, ss, vr a1114, vi (1 : Int32)] [(.int (1 : Int32))])) tQ
    refine XS.aloadN X1109.here hx rfl (hb hby d_prog_72_method_2_code_12) rfl rfl ?_
    exact kk
  clear k1125
  obtain ⟨T1127, X1128, e1129, st1130⟩ := getF X1109 hx hZ hown (host := "") (Or.inl (tw29 hw)) Via.refl e1110 F1121 (g := (mkF m 13 #[vr a, vd x, ss, vr a1114, vi (1 : Int32)] [(.ref a), (.int (1 : Int32))])) rfl rfl (hb hby d_prog_72_method_2_code_13)
  have k1131 : own_G p e below E0 T1127 (mkF m 16 #[vr a, vd x, ss, vr a1114, vi (1 : Int32)] [(.int (8 : Int32)), (.int (1 : Int32))]) := fun tQ kk => k1126 tQ (st1130 _ kk)
  clear k1126 st1130
  have k1132 : own_G p e below E0 T1127 (mkF m 31 #[vr a, vd x, ss, vr a1114, vi (1 : Int32)] [(.ref a), (.double (FP.i2d (0 : Int32))), (.double x), (.int (0 : Int32)), (.ref a1114)]) := by
    intro tQ kk
    refine k1131 tQ ?_
    refine XS.icmpNo X1128.here hx rfl (hb hby d_prog_72_method_2_code_16) rfl (own_ic_gtN (by decide)) ?_
    refine XS.aloadN X1128.here hx rfl (hb hby d_prog_72_method_2_code_19) rfl rfl ?_
    refine XS.iload X1128.here hx rfl (hb hby d_prog_72_method_2_code_20) rfl ?_
    refine XS.iconst X1128.here hx rfl (hb hby d_prog_72_method_2_code_22) ?_
    show Steps p.tables e below (T1127.setTop (mkF m 23 #[vr a, vd x, ss, vr a1114, vi (1 : Int32)] [(.int (1 : Int32)), (.int (1 : Int32)), (.ref a1114)])) tQ
    refine XS.isub X1128.here hx rfl (hb hby d_prog_72_method_2_code_23) rfl ?_
    refine XS.dloadN X1128.here hx rfl (hb hby d_prog_72_method_2_code_24) rfl ?_
    refine XS.iload X1128.here hx rfl (hb hby d_prog_72_method_2_code_25) rfl ?_
    refine XS.iconst X1128.here hx rfl (hb hby d_prog_72_method_2_code_27) ?_
    show Steps p.tables e below (T1127.setTop (mkF m 28 #[vr a, vd x, ss, vr a1114, vi (1 : Int32)] [(.int (1 : Int32)), (.int (1 : Int32)), (.double x), (.int (0 : Int32)), (.ref a1114)])) tQ
    refine XS.isub X1128.here hx rfl (hb hby d_prog_72_method_2_code_28) rfl ?_
    refine XS.i2dS X1128.here hx rfl (hb hby d_prog_72_method_2_code_29) rfl rfl ?_
    refine XS.aloadN X1128.here hx rfl (hb hby d_prog_72_method_2_code_30) rfl rfl ?_
    exact kk
  clear k1131
  obtain ⟨T1133, X1134, e1135, st1136⟩ := getF X1128 hx hZ hown (host := "") (Or.inl (tw31 hw)) Via.refl e1129 F1122 (g := (mkF m 31 #[vr a, vd x, ss, vr a1114, vi (1 : Int32)] [(.ref a), (.double (FP.i2d (0 : Int32))), (.double x), (.int (0 : Int32)), (.ref a1114)])) rfl rfl (hb hby d_prog_72_method_2_code_31)
  have k1137 : own_G p e below E0 T1133 (mkF m 34 #[vr a, vd x, ss, vr a1114, vi (1 : Int32)] [(.double z), (.double (FP.i2d (0 : Int32))), (.double x), (.int (0 : Int32)), (.ref a1114)]) := fun tQ kk => k1132 tQ (st1136 _ kk)
  clear k1132 st1136
  have k1138 : own_G p e below E0 T1133 (mkF m 36 #[vr a, vd x, ss, vr a1114, vi (1 : Int32)] [(.double (FP.dadd x (FP.dmul (FP.i2d (0 : Int32)) z))), (.int (0 : Int32)), (.ref a1114)]) := by
    intro tQ kk
    refine k1137 tQ ?_
    refine XS.dmulS X1134.here hx rfl (hb hby d_prog_72_method_2_code_34) rfl (nn (0 : Int32) (by decide) (by decide)).1 rfl ?_
    refine XS.daddS X1134.here hx rfl (hb hby d_prog_72_method_2_code_35) rfl (nn (0 : Int32) (by decide) (by decide)).2 rfl ?_
    exact kk
  clear k1137
  obtain ⟨T1139, h1140, X1141, e1142, W1143, F1144, st1145⟩ := own_A.dst X1134 hx hZ e1135 F1124 (j := (0 : Int32)) (by decide) rfl (g := (mkF m 36 #[vr a, vd x, ss, vr a1114, vi (1 : Int32)] [(.double (FP.dadd x (FP.dmul (FP.i2d (0 : Int32)) z))), (.int (0 : Int32)), (.ref a1114)])) rfl rfl (hb hby d_prog_72_method_2_code_36)
  have N1146 := Fr.snoc X1141 N0 ge1119
  have k1147 : own_G p e below E0 T1139 (mkF m 37 #[vr a, vd x, ss, vr a1114, vi (1 : Int32)] []) := fun tQ kk => k1138 tQ (st1145 _ kk)
  clear k1138 st1145
  have F1148 : fd5 Z h1140 a (.int (8 : Int32)) := F1121.other W1143 (Or.inl n1116)
  clear F1121
  have F1149 : fd6 Z h1140 a (.double z) := F1122.other W1143 (Or.inl n1116)
  clear F1122
  have Z1150 : n0 ≤ h1140.size := by rw [W1143.size]; exact Z1120
  have K1151 : Keep h0 h1140 [] := K1123.wr W1143 (Or.inr nw1118)
  have F1152 : own_A Z h1140 a1114 .double [(.double (FP.dadd x (FP.dmul (FP.i2d (0 : Int32)) z))), (.double (0 : UInt64)), (.double (0 : UInt64)), (.double (0 : UInt64)), (.double (0 : UInt64)), (.double (0 : UInt64)), (.double (0 : UInt64)), (.double (0 : UInt64))] := F1144
  have k1153 : own_G p e below E0 T1139 (mkF m 13 #[vr a, vd x, ss, vr a1114, vi (2 : Int32)] [(.ref a), (.int (2 : Int32))]) := by
    intro tQ kk
    refine k1147 tQ ?_
    refine XS.iinc X1141.here hx rfl (hb hby d_prog_72_method_2_code_37) rfl (l' := #[vr a, vd x, ss, vr a1114, vi (2 : Int32)]) rfl ?_
    refine XS.goto X1141.here hx rfl (pc0 := 40) (pc' := 10) rfl (hb hby d_prog_72_method_2_code_40) (by decide) (by decide) ?_
    refine XS.iload X1141.here hx rfl (hb hby d_prog_72_method_2_code_10) rfl ?_
    refine XS.aloadN X1141.here hx rfl (hb hby d_prog_72_method_2_code_12) rfl rfl ?_
    exact kk
  clear k1147
  obtain ⟨T1154, X1155, e1156, st1157⟩ := getF X1141 hx hZ hown (host := "") (Or.inl (tw29 hw)) Via.refl e1142 F1148 (g := (mkF m 13 #[vr a, vd x, ss, vr a1114, vi (2 : Int32)] [(.ref a), (.int (2 : Int32))])) rfl rfl (hb hby d_prog_72_method_2_code_13)
  have k1158 : own_G p e below E0 T1154 (mkF m 16 #[vr a, vd x, ss, vr a1114, vi (2 : Int32)] [(.int (8 : Int32)), (.int (2 : Int32))]) := fun tQ kk => k1153 tQ (st1157 _ kk)
  clear k1153 st1157
  have k1159 : own_G p e below E0 T1154 (mkF m 31 #[vr a, vd x, ss, vr a1114, vi (2 : Int32)] [(.ref a), (.double (FP.i2d (1 : Int32))), (.double x), (.int (1 : Int32)), (.ref a1114)]) := by
    intro tQ kk
    refine k1158 tQ ?_
    refine XS.icmpNo X1155.here hx rfl (hb hby d_prog_72_method_2_code_16) rfl (own_ic_gtN (by decide)) ?_
    refine XS.aloadN X1155.here hx rfl (hb hby d_prog_72_method_2_code_19) rfl rfl ?_
    refine XS.iload X1155.here hx rfl (hb hby d_prog_72_method_2_code_20) rfl ?_
    refine XS.iconst X1155.here hx rfl (hb hby d_prog_72_method_2_code_22) ?_
    show Steps p.tables e below (T1154.setTop (mkF m 23 #[vr a, vd x, ss, vr a1114, vi (2 : Int32)] [(.int (1 : Int32)), (.int (2 : Int32)), (.ref a1114)])) tQ
    refine XS.isub X1155.here hx rfl (hb hby d_prog_72_method_2_code_23) rfl ?_
    refine XS.dloadN X1155.here hx rfl (hb hby d_prog_72_method_2_code_24) rfl ?_
    refine XS.iload X1155.here hx rfl (hb hby d_prog_72_method_2_code_25) rfl ?_
    refine XS.iconst X1155.here hx rfl (hb hby d_prog_72_method_2_code_27) ?_
    show Steps p.tables e below (T1154.setTop (mkF m 28 #[vr a, vd x, ss, vr a1114, vi (2 : Int32)] [(.int (1 : Int32)), (.int (2 : Int32)), (.double x), (.int (1 : Int32)), (.ref a1114)])) tQ
    refine XS.isub X1155.here hx rfl (hb hby d_prog_72_method_2_code_28) rfl ?_
    refine XS.i2dS X1155.here hx rfl (hb hby d_prog_72_method_2_code_29) rfl rfl ?_
    refine XS.aloadN X1155.here hx rfl (hb hby d_prog_72_method_2_code_30) rfl rfl ?_
    exact kk
  clear k1158
  obtain ⟨T1160, X1161, e1162, st1163⟩ := getF X1155 hx hZ hown (host := "") (Or.inl (tw31 hw)) Via.refl e1156 F1149 (g := (mkF m 31 #[vr a, vd x, ss, vr a1114, vi (2 : Int32)] [(.ref a), (.double (FP.i2d (1 : Int32))), (.double x), (.int (1 : Int32)), (.ref a1114)])) rfl rfl (hb hby d_prog_72_method_2_code_31)
  have k1164 : own_G p e below E0 T1160 (mkF m 34 #[vr a, vd x, ss, vr a1114, vi (2 : Int32)] [(.double z), (.double (FP.i2d (1 : Int32))), (.double x), (.int (1 : Int32)), (.ref a1114)]) := fun tQ kk => k1159 tQ (st1163 _ kk)
  clear k1159 st1163
  have k1165 : own_G p e below E0 T1160 (mkF m 36 #[vr a, vd x, ss, vr a1114, vi (2 : Int32)] [(.double (FP.dadd x (FP.dmul (FP.i2d (1 : Int32)) z))), (.int (1 : Int32)), (.ref a1114)]) := by
    intro tQ kk
    refine k1164 tQ ?_
    refine XS.dmulS X1161.here hx rfl (hb hby d_prog_72_method_2_code_34) rfl (nn (1 : Int32) (by decide) (by decide)).1 rfl ?_
    refine XS.daddS X1161.here hx rfl (hb hby d_prog_72_method_2_code_35) rfl (nn (1 : Int32) (by decide) (by decide)).2 rfl ?_
    exact kk
  clear k1164
  obtain ⟨T1166, h1167, X1168, e1169, W1170, F1171, st1172⟩ := own_A.dst X1161 hx hZ e1162 F1152 (j := (1 : Int32)) (by decide) rfl (g := (mkF m 36 #[vr a, vd x, ss, vr a1114, vi (2 : Int32)] [(.double (FP.dadd x (FP.dmul (FP.i2d (1 : Int32)) z))), (.int (1 : Int32)), (.ref a1114)])) rfl rfl (hb hby d_prog_72_method_2_code_36)
  have N1173 := Fr.snoc X1168 N1146 ge1119
  have k1174 : own_G p e below E0 T1166 (mkF m 37 #[vr a, vd x, ss, vr a1114, vi (2 : Int32)] []) := fun tQ kk => k1165 tQ (st1172 _ kk)
  clear k1165 st1172
  have F1175 : fd5 Z h1167 a (.int (8 : Int32)) := F1148.other W1170 (Or.inl n1116)
  clear F1148
  have F1176 : fd6 Z h1167 a (.double z) := F1149.other W1170 (Or.inl n1116)
  clear F1149
  have Z1177 : n0 ≤ h1167.size := by rw [W1170.size]; exact Z1150
  have K1178 : Keep h0 h1167 [] := K1151.wr W1170 (Or.inr nw1118)
  have F1179 : own_A Z h1167 a1114 .double [(.double (FP.dadd x (FP.dmul (FP.i2d (0 : Int32)) z))), (.double (FP.dadd x (FP.dmul (FP.i2d (1 : Int32)) z))), (.double (0 : UInt64)), (.double (0 : UInt64)), (.double (0 : UInt64)), (.double (0 : UInt64)), (.double (0 : UInt64)), (.double (0 : UInt64))] := F1171
  have k1180 : own_G p e below E0 T1166 (mkF m 13 #[vr a, vd x, ss, vr a1114, vi (3 : Int32)] [(.ref a), (.int (3 : Int32))]) := by
    intro tQ kk
    refine k1174 tQ ?_
    refine XS.iinc X1168.here hx rfl (hb hby d_prog_72_method_2_code_37) rfl (l' := #[vr a, vd x, ss, vr a1114, vi (3 : Int32)]) rfl ?_
    refine XS.goto X1168.here hx rfl (pc0 := 40) (pc' := 10) rfl (hb hby d_prog_72_method_2_code_40) (by decide) (by decide) ?_
    refine XS.iload X1168.here hx rfl (hb hby d_prog_72_method_2_code_10) rfl ?_
    refine XS.aloadN X1168.here hx rfl (hb hby d_prog_72_method_2_code_12) rfl rfl ?_
    exact kk
  clear k1174
  obtain ⟨T1181, X1182, e1183, st1184⟩ := getF X1168 hx hZ hown (host := "") (Or.inl (tw29 hw)) Via.refl e1169 F1175 (g := (mkF m 13 #[vr a, vd x, ss, vr a1114, vi (3 : Int32)] [(.ref a), (.int (3 : Int32))])) rfl rfl (hb hby d_prog_72_method_2_code_13)
  have k1185 : own_G p e below E0 T1181 (mkF m 16 #[vr a, vd x, ss, vr a1114, vi (3 : Int32)] [(.int (8 : Int32)), (.int (3 : Int32))]) := fun tQ kk => k1180 tQ (st1184 _ kk)
  clear k1180 st1184
  have k1186 : own_G p e below E0 T1181 (mkF m 31 #[vr a, vd x, ss, vr a1114, vi (3 : Int32)] [(.ref a), (.double (FP.i2d (2 : Int32))), (.double x), (.int (2 : Int32)), (.ref a1114)]) := by
    intro tQ kk
    refine k1185 tQ ?_
    refine XS.icmpNo X1182.here hx rfl (hb hby d_prog_72_method_2_code_16) rfl (own_ic_gtN (by decide)) ?_
    refine XS.aloadN X1182.here hx rfl (hb hby d_prog_72_method_2_code_19) rfl rfl ?_
    refine XS.iload X1182.here hx rfl (hb hby d_prog_72_method_2_code_20) rfl ?_
    refine XS.iconst X1182.here hx rfl (hb hby d_prog_72_method_2_code_22) ?_
    show Steps p.tables e below (T1181.setTop (mkF m 23 #[vr a, vd x, ss, vr a1114, vi (3 : Int32)] [(.int (1 : Int32)), (.int (3 : Int32)), (.ref a1114)])) tQ
    refine XS.isub X1182.here hx rfl (hb hby d_prog_72_method_2_code_23) rfl ?_
    refine XS.dloadN X1182.here hx rfl (hb hby d_prog_72_method_2_code_24) rfl ?_
    refine XS.iload X1182.here hx rfl (hb hby d_prog_72_method_2_code_25) rfl ?_
    refine XS.iconst X1182.here hx rfl (hb hby d_prog_72_method_2_code_27) ?_
    show Steps p.tables e below (T1181.setTop (mkF m 28 #[vr a, vd x, ss, vr a1114, vi (3 : Int32)] [(.int (1 : Int32)), (.int (3 : Int32)), (.double x), (.int (2 : Int32)), (.ref a1114)])) tQ
    refine XS.isub X1182.here hx rfl (hb hby d_prog_72_method_2_code_28) rfl ?_
    refine XS.i2dS X1182.here hx rfl (hb hby d_prog_72_method_2_code_29) rfl rfl ?_
    refine XS.aloadN X1182.here hx rfl (hb hby d_prog_72_method_2_code_30) rfl rfl ?_
    exact kk
  clear k1185
  obtain ⟨T1187, X1188, e1189, st1190⟩ := getF X1182 hx hZ hown (host := "") (Or.inl (tw31 hw)) Via.refl e1183 F1176 (g := (mkF m 31 #[vr a, vd x, ss, vr a1114, vi (3 : Int32)] [(.ref a), (.double (FP.i2d (2 : Int32))), (.double x), (.int (2 : Int32)), (.ref a1114)])) rfl rfl (hb hby d_prog_72_method_2_code_31)
  have k1191 : own_G p e below E0 T1187 (mkF m 34 #[vr a, vd x, ss, vr a1114, vi (3 : Int32)] [(.double z), (.double (FP.i2d (2 : Int32))), (.double x), (.int (2 : Int32)), (.ref a1114)]) := fun tQ kk => k1186 tQ (st1190 _ kk)
  clear k1186 st1190
  have k1192 : own_G p e below E0 T1187 (mkF m 36 #[vr a, vd x, ss, vr a1114, vi (3 : Int32)] [(.double (FP.dadd x (FP.dmul (FP.i2d (2 : Int32)) z))), (.int (2 : Int32)), (.ref a1114)]) := by
    intro tQ kk
    refine k1191 tQ ?_
    refine XS.dmulS X1188.here hx rfl (hb hby d_prog_72_method_2_code_34) rfl (nn (2 : Int32) (by decide) (by decide)).1 rfl ?_
    refine XS.daddS X1188.here hx rfl (hb hby d_prog_72_method_2_code_35) rfl (nn (2 : Int32) (by decide) (by decide)).2 rfl ?_
    exact kk
  clear k1191
  obtain ⟨T1193, h1194, X1195, e1196, W1197, F1198, st1199⟩ := own_A.dst X1188 hx hZ e1189 F1179 (j := (2 : Int32)) (by decide) rfl (g := (mkF m 36 #[vr a, vd x, ss, vr a1114, vi (3 : Int32)] [(.double (FP.dadd x (FP.dmul (FP.i2d (2 : Int32)) z))), (.int (2 : Int32)), (.ref a1114)])) rfl rfl (hb hby d_prog_72_method_2_code_36)
  have N1200 := Fr.snoc X1195 N1173 ge1119
  have k1201 : own_G p e below E0 T1193 (mkF m 37 #[vr a, vd x, ss, vr a1114, vi (3 : Int32)] []) := fun tQ kk => k1192 tQ (st1199 _ kk)
  clear k1192 st1199
  have F1202 : fd5 Z h1194 a (.int (8 : Int32)) := F1175.other W1197 (Or.inl n1116)
  clear F1175
  have F1203 : fd6 Z h1194 a (.double z) := F1176.other W1197 (Or.inl n1116)
  clear F1176
  have Z1204 : n0 ≤ h1194.size := by rw [W1197.size]; exact Z1177
  have K1205 : Keep h0 h1194 [] := K1178.wr W1197 (Or.inr nw1118)
  have F1206 : own_A Z h1194 a1114 .double [(.double (FP.dadd x (FP.dmul (FP.i2d (0 : Int32)) z))), (.double (FP.dadd x (FP.dmul (FP.i2d (1 : Int32)) z))), (.double (FP.dadd x (FP.dmul (FP.i2d (2 : Int32)) z))), (.double (0 : UInt64)), (.double (0 : UInt64)), (.double (0 : UInt64)), (.double (0 : UInt64)), (.double (0 : UInt64))] := F1198
  have k1207 : own_G p e below E0 T1193 (mkF m 13 #[vr a, vd x, ss, vr a1114, vi (4 : Int32)] [(.ref a), (.int (4 : Int32))]) := by
    intro tQ kk
    refine k1201 tQ ?_
    refine XS.iinc X1195.here hx rfl (hb hby d_prog_72_method_2_code_37) rfl (l' := #[vr a, vd x, ss, vr a1114, vi (4 : Int32)]) rfl ?_
    refine XS.goto X1195.here hx rfl (pc0 := 40) (pc' := 10) rfl (hb hby d_prog_72_method_2_code_40) (by decide) (by decide) ?_
    refine XS.iload X1195.here hx rfl (hb hby d_prog_72_method_2_code_10) rfl ?_
    refine XS.aloadN X1195.here hx rfl (hb hby d_prog_72_method_2_code_12) rfl rfl ?_
    exact kk
  clear k1201
  obtain ⟨T1208, X1209, e1210, st1211⟩ := getF X1195 hx hZ hown (host := "") (Or.inl (tw29 hw)) Via.refl e1196 F1202 (g := (mkF m 13 #[vr a, vd x, ss, vr a1114, vi (4 : Int32)] [(.ref a), (.int (4 : Int32))])) rfl rfl (hb hby d_prog_72_method_2_code_13)
  have k1212 : own_G p e below E0 T1208 (mkF m 16 #[vr a, vd x, ss, vr a1114, vi (4 : Int32)] [(.int (8 : Int32)), (.int (4 : Int32))]) := fun tQ kk => k1207 tQ (st1211 _ kk)
  clear k1207 st1211
  have k1213 : own_G p e below E0 T1208 (mkF m 31 #[vr a, vd x, ss, vr a1114, vi (4 : Int32)] [(.ref a), (.double (FP.i2d (3 : Int32))), (.double x), (.int (3 : Int32)), (.ref a1114)]) := by
    intro tQ kk
    refine k1212 tQ ?_
    refine XS.icmpNo X1209.here hx rfl (hb hby d_prog_72_method_2_code_16) rfl (own_ic_gtN (by decide)) ?_
    refine XS.aloadN X1209.here hx rfl (hb hby d_prog_72_method_2_code_19) rfl rfl ?_
    refine XS.iload X1209.here hx rfl (hb hby d_prog_72_method_2_code_20) rfl ?_
    refine XS.iconst X1209.here hx rfl (hb hby d_prog_72_method_2_code_22) ?_
    show Steps p.tables e below (T1208.setTop (mkF m 23 #[vr a, vd x, ss, vr a1114, vi (4 : Int32)] [(.int (1 : Int32)), (.int (4 : Int32)), (.ref a1114)])) tQ
    refine XS.isub X1209.here hx rfl (hb hby d_prog_72_method_2_code_23) rfl ?_
    refine XS.dloadN X1209.here hx rfl (hb hby d_prog_72_method_2_code_24) rfl ?_
    refine XS.iload X1209.here hx rfl (hb hby d_prog_72_method_2_code_25) rfl ?_
    refine XS.iconst X1209.here hx rfl (hb hby d_prog_72_method_2_code_27) ?_
    show Steps p.tables e below (T1208.setTop (mkF m 28 #[vr a, vd x, ss, vr a1114, vi (4 : Int32)] [(.int (1 : Int32)), (.int (4 : Int32)), (.double x), (.int (3 : Int32)), (.ref a1114)])) tQ
    refine XS.isub X1209.here hx rfl (hb hby d_prog_72_method_2_code_28) rfl ?_
    refine XS.i2dS X1209.here hx rfl (hb hby d_prog_72_method_2_code_29) rfl rfl ?_
    refine XS.aloadN X1209.here hx rfl (hb hby d_prog_72_method_2_code_30) rfl rfl ?_
    exact kk
  clear k1212
  obtain ⟨T1214, X1215, e1216, st1217⟩ := getF X1209 hx hZ hown (host := "") (Or.inl (tw31 hw)) Via.refl e1210 F1203 (g := (mkF m 31 #[vr a, vd x, ss, vr a1114, vi (4 : Int32)] [(.ref a), (.double (FP.i2d (3 : Int32))), (.double x), (.int (3 : Int32)), (.ref a1114)])) rfl rfl (hb hby d_prog_72_method_2_code_31)
  have k1218 : own_G p e below E0 T1214 (mkF m 34 #[vr a, vd x, ss, vr a1114, vi (4 : Int32)] [(.double z), (.double (FP.i2d (3 : Int32))), (.double x), (.int (3 : Int32)), (.ref a1114)]) := fun tQ kk => k1213 tQ (st1217 _ kk)
  clear k1213 st1217
  have k1219 : own_G p e below E0 T1214 (mkF m 36 #[vr a, vd x, ss, vr a1114, vi (4 : Int32)] [(.double (FP.dadd x (FP.dmul (FP.i2d (3 : Int32)) z))), (.int (3 : Int32)), (.ref a1114)]) := by
    intro tQ kk
    refine k1218 tQ ?_
    refine XS.dmulS X1215.here hx rfl (hb hby d_prog_72_method_2_code_34) rfl (nn (3 : Int32) (by decide) (by decide)).1 rfl ?_
    refine XS.daddS X1215.here hx rfl (hb hby d_prog_72_method_2_code_35) rfl (nn (3 : Int32) (by decide) (by decide)).2 rfl ?_
    exact kk
  clear k1218
  obtain ⟨T1220, h1221, X1222, e1223, W1224, F1225, st1226⟩ := own_A.dst X1215 hx hZ e1216 F1206 (j := (3 : Int32)) (by decide) rfl (g := (mkF m 36 #[vr a, vd x, ss, vr a1114, vi (4 : Int32)] [(.double (FP.dadd x (FP.dmul (FP.i2d (3 : Int32)) z))), (.int (3 : Int32)), (.ref a1114)])) rfl rfl (hb hby d_prog_72_method_2_code_36)
  have N1227 := Fr.snoc X1222 N1200 ge1119
  have k1228 : own_G p e below E0 T1220 (mkF m 37 #[vr a, vd x, ss, vr a1114, vi (4 : Int32)] []) := fun tQ kk => k1219 tQ (st1226 _ kk)
  clear k1219 st1226
  have F1229 : fd5 Z h1221 a (.int (8 : Int32)) := F1202.other W1224 (Or.inl n1116)
  clear F1202
  have F1230 : fd6 Z h1221 a (.double z) := F1203.other W1224 (Or.inl n1116)
  clear F1203
  have Z1231 : n0 ≤ h1221.size := by rw [W1224.size]; exact Z1204
  have K1232 : Keep h0 h1221 [] := K1205.wr W1224 (Or.inr nw1118)
  have F1233 : own_A Z h1221 a1114 .double [(.double (FP.dadd x (FP.dmul (FP.i2d (0 : Int32)) z))), (.double (FP.dadd x (FP.dmul (FP.i2d (1 : Int32)) z))), (.double (FP.dadd x (FP.dmul (FP.i2d (2 : Int32)) z))), (.double (FP.dadd x (FP.dmul (FP.i2d (3 : Int32)) z))), (.double (0 : UInt64)), (.double (0 : UInt64)), (.double (0 : UInt64)), (.double (0 : UInt64))] := F1225
  have k1234 : own_G p e below E0 T1220 (mkF m 13 #[vr a, vd x, ss, vr a1114, vi (5 : Int32)] [(.ref a), (.int (5 : Int32))]) := by
    intro tQ kk
    refine k1228 tQ ?_
    refine XS.iinc X1222.here hx rfl (hb hby d_prog_72_method_2_code_37) rfl (l' := #[vr a, vd x, ss, vr a1114, vi (5 : Int32)]) rfl ?_
    refine XS.goto X1222.here hx rfl (pc0 := 40) (pc' := 10) rfl (hb hby d_prog_72_method_2_code_40) (by decide) (by decide) ?_
    refine XS.iload X1222.here hx rfl (hb hby d_prog_72_method_2_code_10) rfl ?_
    refine XS.aloadN X1222.here hx rfl (hb hby d_prog_72_method_2_code_12) rfl rfl ?_
    exact kk
  clear k1228
  obtain ⟨T1235, X1236, e1237, st1238⟩ := getF X1222 hx hZ hown (host := "") (Or.inl (tw29 hw)) Via.refl e1223 F1229 (g := (mkF m 13 #[vr a, vd x, ss, vr a1114, vi (5 : Int32)] [(.ref a), (.int (5 : Int32))])) rfl rfl (hb hby d_prog_72_method_2_code_13)
  have k1239 : own_G p e below E0 T1235 (mkF m 16 #[vr a, vd x, ss, vr a1114, vi (5 : Int32)] [(.int (8 : Int32)), (.int (5 : Int32))]) := fun tQ kk => k1234 tQ (st1238 _ kk)
  clear k1234 st1238
  have k1240 : own_G p e below E0 T1235 (mkF m 31 #[vr a, vd x, ss, vr a1114, vi (5 : Int32)] [(.ref a), (.double (FP.i2d (4 : Int32))), (.double x), (.int (4 : Int32)), (.ref a1114)]) := by
    intro tQ kk
    refine k1239 tQ ?_
    refine XS.icmpNo X1236.here hx rfl (hb hby d_prog_72_method_2_code_16) rfl (own_ic_gtN (by decide)) ?_
    refine XS.aloadN X1236.here hx rfl (hb hby d_prog_72_method_2_code_19) rfl rfl ?_
    refine XS.iload X1236.here hx rfl (hb hby d_prog_72_method_2_code_20) rfl ?_
    refine XS.iconst X1236.here hx rfl (hb hby d_prog_72_method_2_code_22) ?_
    show Steps p.tables e below (T1235.setTop (mkF m 23 #[vr a, vd x, ss, vr a1114, vi (5 : Int32)] [(.int (1 : Int32)), (.int (5 : Int32)), (.ref a1114)])) tQ
    refine XS.isub X1236.here hx rfl (hb hby d_prog_72_method_2_code_23) rfl ?_
    refine XS.dloadN X1236.here hx rfl (hb hby d_prog_72_method_2_code_24) rfl ?_
    refine XS.iload X1236.here hx rfl (hb hby d_prog_72_method_2_code_25) rfl ?_
    refine XS.iconst X1236.here hx rfl (hb hby d_prog_72_method_2_code_27) ?_
    show Steps p.tables e below (T1235.setTop (mkF m 28 #[vr a, vd x, ss, vr a1114, vi (5 : Int32)] [(.int (1 : Int32)), (.int (5 : Int32)), (.double x), (.int (4 : Int32)), (.ref a1114)])) tQ
    refine XS.isub X1236.here hx rfl (hb hby d_prog_72_method_2_code_28) rfl ?_
    refine XS.i2dS X1236.here hx rfl (hb hby d_prog_72_method_2_code_29) rfl rfl ?_
    refine XS.aloadN X1236.here hx rfl (hb hby d_prog_72_method_2_code_30) rfl rfl ?_
    exact kk
  clear k1239
  obtain ⟨T1241, X1242, e1243, st1244⟩ := getF X1236 hx hZ hown (host := "") (Or.inl (tw31 hw)) Via.refl e1237 F1230 (g := (mkF m 31 #[vr a, vd x, ss, vr a1114, vi (5 : Int32)] [(.ref a), (.double (FP.i2d (4 : Int32))), (.double x), (.int (4 : Int32)), (.ref a1114)])) rfl rfl (hb hby d_prog_72_method_2_code_31)
  have k1245 : own_G p e below E0 T1241 (mkF m 34 #[vr a, vd x, ss, vr a1114, vi (5 : Int32)] [(.double z), (.double (FP.i2d (4 : Int32))), (.double x), (.int (4 : Int32)), (.ref a1114)]) := fun tQ kk => k1240 tQ (st1244 _ kk)
  clear k1240 st1244
  have k1246 : own_G p e below E0 T1241 (mkF m 36 #[vr a, vd x, ss, vr a1114, vi (5 : Int32)] [(.double (FP.dadd x (FP.dmul (FP.i2d (4 : Int32)) z))), (.int (4 : Int32)), (.ref a1114)]) := by
    intro tQ kk
    refine k1245 tQ ?_
    refine XS.dmulS X1242.here hx rfl (hb hby d_prog_72_method_2_code_34) rfl (nn (4 : Int32) (by decide) (by decide)).1 rfl ?_
    refine XS.daddS X1242.here hx rfl (hb hby d_prog_72_method_2_code_35) rfl (nn (4 : Int32) (by decide) (by decide)).2 rfl ?_
    exact kk
  clear k1245
  obtain ⟨T1247, h1248, X1249, e1250, W1251, F1252, st1253⟩ := own_A.dst X1242 hx hZ e1243 F1233 (j := (4 : Int32)) (by decide) rfl (g := (mkF m 36 #[vr a, vd x, ss, vr a1114, vi (5 : Int32)] [(.double (FP.dadd x (FP.dmul (FP.i2d (4 : Int32)) z))), (.int (4 : Int32)), (.ref a1114)])) rfl rfl (hb hby d_prog_72_method_2_code_36)
  have N1254 := Fr.snoc X1249 N1227 ge1119
  have k1255 : own_G p e below E0 T1247 (mkF m 37 #[vr a, vd x, ss, vr a1114, vi (5 : Int32)] []) := fun tQ kk => k1246 tQ (st1253 _ kk)
  clear k1246 st1253
  have F1256 : fd5 Z h1248 a (.int (8 : Int32)) := F1229.other W1251 (Or.inl n1116)
  clear F1229
  have F1257 : fd6 Z h1248 a (.double z) := F1230.other W1251 (Or.inl n1116)
  clear F1230
  have Z1258 : n0 ≤ h1248.size := by rw [W1251.size]; exact Z1231
  have K1259 : Keep h0 h1248 [] := K1232.wr W1251 (Or.inr nw1118)
  have F1260 : own_A Z h1248 a1114 .double [(.double (FP.dadd x (FP.dmul (FP.i2d (0 : Int32)) z))), (.double (FP.dadd x (FP.dmul (FP.i2d (1 : Int32)) z))), (.double (FP.dadd x (FP.dmul (FP.i2d (2 : Int32)) z))), (.double (FP.dadd x (FP.dmul (FP.i2d (3 : Int32)) z))), (.double (FP.dadd x (FP.dmul (FP.i2d (4 : Int32)) z))), (.double (0 : UInt64)), (.double (0 : UInt64)), (.double (0 : UInt64))] := F1252
  have k1261 : own_G p e below E0 T1247 (mkF m 13 #[vr a, vd x, ss, vr a1114, vi (6 : Int32)] [(.ref a), (.int (6 : Int32))]) := by
    intro tQ kk
    refine k1255 tQ ?_
    refine XS.iinc X1249.here hx rfl (hb hby d_prog_72_method_2_code_37) rfl (l' := #[vr a, vd x, ss, vr a1114, vi (6 : Int32)]) rfl ?_
    refine XS.goto X1249.here hx rfl (pc0 := 40) (pc' := 10) rfl (hb hby d_prog_72_method_2_code_40) (by decide) (by decide) ?_
    refine XS.iload X1249.here hx rfl (hb hby d_prog_72_method_2_code_10) rfl ?_
    refine XS.aloadN X1249.here hx rfl (hb hby d_prog_72_method_2_code_12) rfl rfl ?_
    exact kk
  clear k1255
  obtain ⟨T1262, X1263, e1264, st1265⟩ := getF X1249 hx hZ hown (host := "") (Or.inl (tw29 hw)) Via.refl e1250 F1256 (g := (mkF m 13 #[vr a, vd x, ss, vr a1114, vi (6 : Int32)] [(.ref a), (.int (6 : Int32))])) rfl rfl (hb hby d_prog_72_method_2_code_13)
  have k1266 : own_G p e below E0 T1262 (mkF m 16 #[vr a, vd x, ss, vr a1114, vi (6 : Int32)] [(.int (8 : Int32)), (.int (6 : Int32))]) := fun tQ kk => k1261 tQ (st1265 _ kk)
  clear k1261 st1265
  have k1267 : own_G p e below E0 T1262 (mkF m 31 #[vr a, vd x, ss, vr a1114, vi (6 : Int32)] [(.ref a), (.double (FP.i2d (5 : Int32))), (.double x), (.int (5 : Int32)), (.ref a1114)]) := by
    intro tQ kk
    refine k1266 tQ ?_
    refine XS.icmpNo X1263.here hx rfl (hb hby d_prog_72_method_2_code_16) rfl (own_ic_gtN (by decide)) ?_
    refine XS.aloadN X1263.here hx rfl (hb hby d_prog_72_method_2_code_19) rfl rfl ?_
    refine XS.iload X1263.here hx rfl (hb hby d_prog_72_method_2_code_20) rfl ?_
    refine XS.iconst X1263.here hx rfl (hb hby d_prog_72_method_2_code_22) ?_
    show Steps p.tables e below (T1262.setTop (mkF m 23 #[vr a, vd x, ss, vr a1114, vi (6 : Int32)] [(.int (1 : Int32)), (.int (6 : Int32)), (.ref a1114)])) tQ
    refine XS.isub X1263.here hx rfl (hb hby d_prog_72_method_2_code_23) rfl ?_
    refine XS.dloadN X1263.here hx rfl (hb hby d_prog_72_method_2_code_24) rfl ?_
    refine XS.iload X1263.here hx rfl (hb hby d_prog_72_method_2_code_25) rfl ?_
    refine XS.iconst X1263.here hx rfl (hb hby d_prog_72_method_2_code_27) ?_
    show Steps p.tables e below (T1262.setTop (mkF m 28 #[vr a, vd x, ss, vr a1114, vi (6 : Int32)] [(.int (1 : Int32)), (.int (6 : Int32)), (.double x), (.int (5 : Int32)), (.ref a1114)])) tQ
    refine XS.isub X1263.here hx rfl (hb hby d_prog_72_method_2_code_28) rfl ?_
    refine XS.i2dS X1263.here hx rfl (hb hby d_prog_72_method_2_code_29) rfl rfl ?_
    refine XS.aloadN X1263.here hx rfl (hb hby d_prog_72_method_2_code_30) rfl rfl ?_
    exact kk
  clear k1266
  obtain ⟨T1268, X1269, e1270, st1271⟩ := getF X1263 hx hZ hown (host := "") (Or.inl (tw31 hw)) Via.refl e1264 F1257 (g := (mkF m 31 #[vr a, vd x, ss, vr a1114, vi (6 : Int32)] [(.ref a), (.double (FP.i2d (5 : Int32))), (.double x), (.int (5 : Int32)), (.ref a1114)])) rfl rfl (hb hby d_prog_72_method_2_code_31)
  have k1272 : own_G p e below E0 T1268 (mkF m 34 #[vr a, vd x, ss, vr a1114, vi (6 : Int32)] [(.double z), (.double (FP.i2d (5 : Int32))), (.double x), (.int (5 : Int32)), (.ref a1114)]) := fun tQ kk => k1267 tQ (st1271 _ kk)
  clear k1267 st1271
  have k1273 : own_G p e below E0 T1268 (mkF m 36 #[vr a, vd x, ss, vr a1114, vi (6 : Int32)] [(.double (FP.dadd x (FP.dmul (FP.i2d (5 : Int32)) z))), (.int (5 : Int32)), (.ref a1114)]) := by
    intro tQ kk
    refine k1272 tQ ?_
    refine XS.dmulS X1269.here hx rfl (hb hby d_prog_72_method_2_code_34) rfl (nn (5 : Int32) (by decide) (by decide)).1 rfl ?_
    refine XS.daddS X1269.here hx rfl (hb hby d_prog_72_method_2_code_35) rfl (nn (5 : Int32) (by decide) (by decide)).2 rfl ?_
    exact kk
  clear k1272
  obtain ⟨T1274, h1275, X1276, e1277, W1278, F1279, st1280⟩ := own_A.dst X1269 hx hZ e1270 F1260 (j := (5 : Int32)) (by decide) rfl (g := (mkF m 36 #[vr a, vd x, ss, vr a1114, vi (6 : Int32)] [(.double (FP.dadd x (FP.dmul (FP.i2d (5 : Int32)) z))), (.int (5 : Int32)), (.ref a1114)])) rfl rfl (hb hby d_prog_72_method_2_code_36)
  have N1281 := Fr.snoc X1276 N1254 ge1119
  have k1282 : own_G p e below E0 T1274 (mkF m 37 #[vr a, vd x, ss, vr a1114, vi (6 : Int32)] []) := fun tQ kk => k1273 tQ (st1280 _ kk)
  clear k1273 st1280
  have F1283 : fd5 Z h1275 a (.int (8 : Int32)) := F1256.other W1278 (Or.inl n1116)
  clear F1256
  have F1284 : fd6 Z h1275 a (.double z) := F1257.other W1278 (Or.inl n1116)
  clear F1257
  have Z1285 : n0 ≤ h1275.size := by rw [W1278.size]; exact Z1258
  have K1286 : Keep h0 h1275 [] := K1259.wr W1278 (Or.inr nw1118)
  have F1287 : own_A Z h1275 a1114 .double [(.double (FP.dadd x (FP.dmul (FP.i2d (0 : Int32)) z))), (.double (FP.dadd x (FP.dmul (FP.i2d (1 : Int32)) z))), (.double (FP.dadd x (FP.dmul (FP.i2d (2 : Int32)) z))), (.double (FP.dadd x (FP.dmul (FP.i2d (3 : Int32)) z))), (.double (FP.dadd x (FP.dmul (FP.i2d (4 : Int32)) z))), (.double (FP.dadd x (FP.dmul (FP.i2d (5 : Int32)) z))), (.double (0 : UInt64)), (.double (0 : UInt64))] := F1279
  have k1288 : own_G p e below E0 T1274 (mkF m 13 #[vr a, vd x, ss, vr a1114, vi (7 : Int32)] [(.ref a), (.int (7 : Int32))]) := by
    intro tQ kk
    refine k1282 tQ ?_
    refine XS.iinc X1276.here hx rfl (hb hby d_prog_72_method_2_code_37) rfl (l' := #[vr a, vd x, ss, vr a1114, vi (7 : Int32)]) rfl ?_
    refine XS.goto X1276.here hx rfl (pc0 := 40) (pc' := 10) rfl (hb hby d_prog_72_method_2_code_40) (by decide) (by decide) ?_
    refine XS.iload X1276.here hx rfl (hb hby d_prog_72_method_2_code_10) rfl ?_
    refine XS.aloadN X1276.here hx rfl (hb hby d_prog_72_method_2_code_12) rfl rfl ?_
    exact kk
  clear k1282
  obtain ⟨T1289, X1290, e1291, st1292⟩ := getF X1276 hx hZ hown (host := "") (Or.inl (tw29 hw)) Via.refl e1277 F1283 (g := (mkF m 13 #[vr a, vd x, ss, vr a1114, vi (7 : Int32)] [(.ref a), (.int (7 : Int32))])) rfl rfl (hb hby d_prog_72_method_2_code_13)
  have k1293 : own_G p e below E0 T1289 (mkF m 16 #[vr a, vd x, ss, vr a1114, vi (7 : Int32)] [(.int (8 : Int32)), (.int (7 : Int32))]) := fun tQ kk => k1288 tQ (st1292 _ kk)
  clear k1288 st1292
  have k1294 : own_G p e below E0 T1289 (mkF m 31 #[vr a, vd x, ss, vr a1114, vi (7 : Int32)] [(.ref a), (.double (FP.i2d (6 : Int32))), (.double x), (.int (6 : Int32)), (.ref a1114)]) := by
    intro tQ kk
    refine k1293 tQ ?_
    refine XS.icmpNo X1290.here hx rfl (hb hby d_prog_72_method_2_code_16) rfl (own_ic_gtN (by decide)) ?_
    refine XS.aloadN X1290.here hx rfl (hb hby d_prog_72_method_2_code_19) rfl rfl ?_
    refine XS.iload X1290.here hx rfl (hb hby d_prog_72_method_2_code_20) rfl ?_
    refine XS.iconst X1290.here hx rfl (hb hby d_prog_72_method_2_code_22) ?_
    show Steps p.tables e below (T1289.setTop (mkF m 23 #[vr a, vd x, ss, vr a1114, vi (7 : Int32)] [(.int (1 : Int32)), (.int (7 : Int32)), (.ref a1114)])) tQ
    refine XS.isub X1290.here hx rfl (hb hby d_prog_72_method_2_code_23) rfl ?_
    refine XS.dloadN X1290.here hx rfl (hb hby d_prog_72_method_2_code_24) rfl ?_
    refine XS.iload X1290.here hx rfl (hb hby d_prog_72_method_2_code_25) rfl ?_
    refine XS.iconst X1290.here hx rfl (hb hby d_prog_72_method_2_code_27) ?_
    show Steps p.tables e below (T1289.setTop (mkF m 28 #[vr a, vd x, ss, vr a1114, vi (7 : Int32)] [(.int (1 : Int32)), (.int (7 : Int32)), (.double x), (.int (6 : Int32)), (.ref a1114)])) tQ
    refine XS.isub X1290.here hx rfl (hb hby d_prog_72_method_2_code_28) rfl ?_
    refine XS.i2dS X1290.here hx rfl (hb hby d_prog_72_method_2_code_29) rfl rfl ?_
    refine XS.aloadN X1290.here hx rfl (hb hby d_prog_72_method_2_code_30) rfl rfl ?_
    exact kk
  clear k1293
  obtain ⟨T1295, X1296, e1297, st1298⟩ := getF X1290 hx hZ hown (host := "") (Or.inl (tw31 hw)) Via.refl e1291 F1284 (g := (mkF m 31 #[vr a, vd x, ss, vr a1114, vi (7 : Int32)] [(.ref a), (.double (FP.i2d (6 : Int32))), (.double x), (.int (6 : Int32)), (.ref a1114)])) rfl rfl (hb hby d_prog_72_method_2_code_31)
  have k1299 : own_G p e below E0 T1295 (mkF m 34 #[vr a, vd x, ss, vr a1114, vi (7 : Int32)] [(.double z), (.double (FP.i2d (6 : Int32))), (.double x), (.int (6 : Int32)), (.ref a1114)]) := fun tQ kk => k1294 tQ (st1298 _ kk)
  clear k1294 st1298
  have k1300 : own_G p e below E0 T1295 (mkF m 36 #[vr a, vd x, ss, vr a1114, vi (7 : Int32)] [(.double (FP.dadd x (FP.dmul (FP.i2d (6 : Int32)) z))), (.int (6 : Int32)), (.ref a1114)]) := by
    intro tQ kk
    refine k1299 tQ ?_
    refine XS.dmulS X1296.here hx rfl (hb hby d_prog_72_method_2_code_34) rfl (nn (6 : Int32) (by decide) (by decide)).1 rfl ?_
    refine XS.daddS X1296.here hx rfl (hb hby d_prog_72_method_2_code_35) rfl (nn (6 : Int32) (by decide) (by decide)).2 rfl ?_
    exact kk
  clear k1299
  obtain ⟨T1301, h1302, X1303, e1304, W1305, F1306, st1307⟩ := own_A.dst X1296 hx hZ e1297 F1287 (j := (6 : Int32)) (by decide) rfl (g := (mkF m 36 #[vr a, vd x, ss, vr a1114, vi (7 : Int32)] [(.double (FP.dadd x (FP.dmul (FP.i2d (6 : Int32)) z))), (.int (6 : Int32)), (.ref a1114)])) rfl rfl (hb hby d_prog_72_method_2_code_36)
  have N1308 := Fr.snoc X1303 N1281 ge1119
  have k1309 : own_G p e below E0 T1301 (mkF m 37 #[vr a, vd x, ss, vr a1114, vi (7 : Int32)] []) := fun tQ kk => k1300 tQ (st1307 _ kk)
  clear k1300 st1307
  have F1310 : fd5 Z h1302 a (.int (8 : Int32)) := F1283.other W1305 (Or.inl n1116)
  clear F1283
  have F1311 : fd6 Z h1302 a (.double z) := F1284.other W1305 (Or.inl n1116)
  clear F1284
  have Z1312 : n0 ≤ h1302.size := by rw [W1305.size]; exact Z1285
  have K1313 : Keep h0 h1302 [] := K1286.wr W1305 (Or.inr nw1118)
  have F1314 : own_A Z h1302 a1114 .double [(.double (FP.dadd x (FP.dmul (FP.i2d (0 : Int32)) z))), (.double (FP.dadd x (FP.dmul (FP.i2d (1 : Int32)) z))), (.double (FP.dadd x (FP.dmul (FP.i2d (2 : Int32)) z))), (.double (FP.dadd x (FP.dmul (FP.i2d (3 : Int32)) z))), (.double (FP.dadd x (FP.dmul (FP.i2d (4 : Int32)) z))), (.double (FP.dadd x (FP.dmul (FP.i2d (5 : Int32)) z))), (.double (FP.dadd x (FP.dmul (FP.i2d (6 : Int32)) z))), (.double (0 : UInt64))] := F1306
  have k1315 : own_G p e below E0 T1301 (mkF m 13 #[vr a, vd x, ss, vr a1114, vi (8 : Int32)] [(.ref a), (.int (8 : Int32))]) := by
    intro tQ kk
    refine k1309 tQ ?_
    refine XS.iinc X1303.here hx rfl (hb hby d_prog_72_method_2_code_37) rfl (l' := #[vr a, vd x, ss, vr a1114, vi (8 : Int32)]) rfl ?_
    refine XS.goto X1303.here hx rfl (pc0 := 40) (pc' := 10) rfl (hb hby d_prog_72_method_2_code_40) (by decide) (by decide) ?_
    refine XS.iload X1303.here hx rfl (hb hby d_prog_72_method_2_code_10) rfl ?_
    refine XS.aloadN X1303.here hx rfl (hb hby d_prog_72_method_2_code_12) rfl rfl ?_
    exact kk
  clear k1309
  obtain ⟨T1316, X1317, e1318, st1319⟩ := getF X1303 hx hZ hown (host := "") (Or.inl (tw29 hw)) Via.refl e1304 F1310 (g := (mkF m 13 #[vr a, vd x, ss, vr a1114, vi (8 : Int32)] [(.ref a), (.int (8 : Int32))])) rfl rfl (hb hby d_prog_72_method_2_code_13)
  have k1320 : own_G p e below E0 T1316 (mkF m 16 #[vr a, vd x, ss, vr a1114, vi (8 : Int32)] [(.int (8 : Int32)), (.int (8 : Int32))]) := fun tQ kk => k1315 tQ (st1319 _ kk)
  clear k1315 st1319
  have k1321 : own_G p e below E0 T1316 (mkF m 31 #[vr a, vd x, ss, vr a1114, vi (8 : Int32)] [(.ref a), (.double (FP.i2d (7 : Int32))), (.double x), (.int (7 : Int32)), (.ref a1114)]) := by
    intro tQ kk
    refine k1320 tQ ?_
    refine XS.icmpNo X1317.here hx rfl (hb hby d_prog_72_method_2_code_16) rfl (own_ic_gtN (by decide)) ?_
    refine XS.aloadN X1317.here hx rfl (hb hby d_prog_72_method_2_code_19) rfl rfl ?_
    refine XS.iload X1317.here hx rfl (hb hby d_prog_72_method_2_code_20) rfl ?_
    refine XS.iconst X1317.here hx rfl (hb hby d_prog_72_method_2_code_22) ?_
    show Steps p.tables e below (T1316.setTop (mkF m 23 #[vr a, vd x, ss, vr a1114, vi (8 : Int32)] [(.int (1 : Int32)), (.int (8 : Int32)), (.ref a1114)])) tQ
    refine XS.isub X1317.here hx rfl (hb hby d_prog_72_method_2_code_23) rfl ?_
    refine XS.dloadN X1317.here hx rfl (hb hby d_prog_72_method_2_code_24) rfl ?_
    refine XS.iload X1317.here hx rfl (hb hby d_prog_72_method_2_code_25) rfl ?_
    refine XS.iconst X1317.here hx rfl (hb hby d_prog_72_method_2_code_27) ?_
    show Steps p.tables e below (T1316.setTop (mkF m 28 #[vr a, vd x, ss, vr a1114, vi (8 : Int32)] [(.int (1 : Int32)), (.int (8 : Int32)), (.double x), (.int (7 : Int32)), (.ref a1114)])) tQ
    refine XS.isub X1317.here hx rfl (hb hby d_prog_72_method_2_code_28) rfl ?_
    refine XS.i2dS X1317.here hx rfl (hb hby d_prog_72_method_2_code_29) rfl rfl ?_
    refine XS.aloadN X1317.here hx rfl (hb hby d_prog_72_method_2_code_30) rfl rfl ?_
    exact kk
  clear k1320
  obtain ⟨T1322, X1323, e1324, st1325⟩ := getF X1317 hx hZ hown (host := "") (Or.inl (tw31 hw)) Via.refl e1318 F1311 (g := (mkF m 31 #[vr a, vd x, ss, vr a1114, vi (8 : Int32)] [(.ref a), (.double (FP.i2d (7 : Int32))), (.double x), (.int (7 : Int32)), (.ref a1114)])) rfl rfl (hb hby d_prog_72_method_2_code_31)
  have k1326 : own_G p e below E0 T1322 (mkF m 34 #[vr a, vd x, ss, vr a1114, vi (8 : Int32)] [(.double z), (.double (FP.i2d (7 : Int32))), (.double x), (.int (7 : Int32)), (.ref a1114)]) := fun tQ kk => k1321 tQ (st1325 _ kk)
  clear k1321 st1325
  have k1327 : own_G p e below E0 T1322 (mkF m 36 #[vr a, vd x, ss, vr a1114, vi (8 : Int32)] [(.double (FP.dadd x (FP.dmul (FP.i2d (7 : Int32)) z))), (.int (7 : Int32)), (.ref a1114)]) := by
    intro tQ kk
    refine k1326 tQ ?_
    refine XS.dmulS X1323.here hx rfl (hb hby d_prog_72_method_2_code_34) rfl (nn (7 : Int32) (by decide) (by decide)).1 rfl ?_
    refine XS.daddS X1323.here hx rfl (hb hby d_prog_72_method_2_code_35) rfl (nn (7 : Int32) (by decide) (by decide)).2 rfl ?_
    exact kk
  clear k1326
  obtain ⟨T1328, h1329, X1330, e1331, W1332, F1333, st1334⟩ := own_A.dst X1323 hx hZ e1324 F1314 (j := (7 : Int32)) (by decide) rfl (g := (mkF m 36 #[vr a, vd x, ss, vr a1114, vi (8 : Int32)] [(.double (FP.dadd x (FP.dmul (FP.i2d (7 : Int32)) z))), (.int (7 : Int32)), (.ref a1114)])) rfl rfl (hb hby d_prog_72_method_2_code_36)
  have N1335 := Fr.snoc X1330 N1308 ge1119
  have k1336 : own_G p e below E0 T1328 (mkF m 37 #[vr a, vd x, ss, vr a1114, vi (8 : Int32)] []) := fun tQ kk => k1327 tQ (st1334 _ kk)
  clear k1327 st1334
  have F1337 : fd5 Z h1329 a (.int (8 : Int32)) := F1310.other W1332 (Or.inl n1116)
  clear F1310
  have F1338 : fd6 Z h1329 a (.double z) := F1311.other W1332 (Or.inl n1116)
  clear F1311
  have Z1339 : n0 ≤ h1329.size := by rw [W1332.size]; exact Z1312
  have K1340 : Keep h0 h1329 [] := K1313.wr W1332 (Or.inr nw1118)
  have F1341 : own_A Z h1329 a1114 .double [(.double (FP.dadd x (FP.dmul (FP.i2d (0 : Int32)) z))), (.double (FP.dadd x (FP.dmul (FP.i2d (1 : Int32)) z))), (.double (FP.dadd x (FP.dmul (FP.i2d (2 : Int32)) z))), (.double (FP.dadd x (FP.dmul (FP.i2d (3 : Int32)) z))), (.double (FP.dadd x (FP.dmul (FP.i2d (4 : Int32)) z))), (.double (FP.dadd x (FP.dmul (FP.i2d (5 : Int32)) z))), (.double (FP.dadd x (FP.dmul (FP.i2d (6 : Int32)) z))), (.double (FP.dadd x (FP.dmul (FP.i2d (7 : Int32)) z)))] := F1333
  have k1342 : own_G p e below E0 T1328 (mkF m 13 #[vr a, vd x, ss, vr a1114, vi (9 : Int32)] [(.ref a), (.int (9 : Int32))]) := by
    intro tQ kk
    refine k1336 tQ ?_
    refine XS.iinc X1330.here hx rfl (hb hby d_prog_72_method_2_code_37) rfl (l' := #[vr a, vd x, ss, vr a1114, vi (9 : Int32)]) rfl ?_
    refine XS.goto X1330.here hx rfl (pc0 := 40) (pc' := 10) rfl (hb hby d_prog_72_method_2_code_40) (by decide) (by decide) ?_
    refine XS.iload X1330.here hx rfl (hb hby d_prog_72_method_2_code_10) rfl ?_
    refine XS.aloadN X1330.here hx rfl (hb hby d_prog_72_method_2_code_12) rfl rfl ?_
    exact kk
  clear k1336
  obtain ⟨T1343, X1344, e1345, st1346⟩ := getF X1330 hx hZ hown (host := "") (Or.inl (tw29 hw)) Via.refl e1331 F1337 (g := (mkF m 13 #[vr a, vd x, ss, vr a1114, vi (9 : Int32)] [(.ref a), (.int (9 : Int32))])) rfl rfl (hb hby d_prog_72_method_2_code_13)
  have k1347 : own_G p e below E0 T1343 (mkF m 16 #[vr a, vd x, ss, vr a1114, vi (9 : Int32)] [(.int (8 : Int32)), (.int (9 : Int32))]) := fun tQ kk => k1342 tQ (st1346 _ kk)
  clear k1342 st1346
  have k1348 : own_G p e below E0 T1343 (mkF m 44 #[vr a, vd x, ss, vr a1114, vi (9 : Int32)] [(.ref a1114)]) := by
    intro tQ kk
    refine k1347 tQ ?_
    refine XS.icmpYes X1344.here hx rfl (pc0 := 16) (pc' := 43) rfl (hb hby d_prog_72_method_2_code_16) rfl (own_ic_gtY (by decide)) (by decide) (by decide) ?_
    refine XS.aloadN X1344.here hx rfl (hb hby d_prog_72_method_2_code_43) rfl rfl ?_
    exact kk
  clear k1347
  obtain ⟨fs, hr, hrun, hended, hW, hsame⟩ := X1344.leave (v := some (.ref a1114)) (fun h => by rw [Bd.returns] at h; cases h)
  have hrun0 := k1348 _ (retOut X1344 hx Bd.returns (t := (.array .double)) rfl (Or.inr (Or.inr (Or.inr (Or.inr ⟨rfl, rfl, rfl⟩)))) (hb hby d_prog_72_method_2_code_44) hr)
  subst hE0
  refine ⟨_, _, hrun0, hrun, hended, _, _, rfl, ?_, ⟨_, rfl⟩, hW, hsame.mono (by decide) (by decide)⟩
  show QrmV8 Z a x z h0 n0 _ T1343.heap _
  rw [e1345]
  exact ⟨a1114, rfl, N1335, K1340, F1341⟩
def QrmT (Z : State) (a : Addr) (k : Int32) (y : Int32) (i : Int64) (h : Int64) (vs : List Value) (x : UInt64) (J : Int) (h0 : Heap) (n0 : Nat) (vQ : Option Value) (hQ : Heap) (LQ : List Loc) : Prop := vQ = some (.int (1 : Int32)) ∧ Fr n0 LQ ∧ hQ = h0
theorem ef_rmT (m : MethodId) (a : Addr) (k : Int32) (y : Int32) (i : Int64) (h : Int64) (vs : List Value) (x : UInt64) (J : Int) : entryFrame m #[(.ref a), (.int k), (.int y), (.long i), (.long h)] 9 = mkF m 0 #[vr a, vi k, vi y, vj i, ss, vj h, ss, uu, uu] [] := by first | (simp [entryFrame, mkF, argsToLocals, Value.category]; done) | rfl
abbrev mn13 : MethodName := ⟨"com/example/capwright/capwright/premise/ConstantAmountChangeIncomesPinLaw", "at", "([DIIJJ)Z"⟩
theorem pn_com_example_capwright_capwright_premise_ConstantAmountChangeIncomesPinLaw : plainName "com/example/capwright/capwright/premise/ConstantAmountChangeIncomesPinLaw" = true := by first | (simp [plainName, overriddenIn]; done) | decide +kernel
theorem d_method_3_code_0 : decode method_3_code 0 = .ok (.iload_n 1, 1) := by decide +kernel
theorem d_method_3_code_1 : decode method_3_code 1 = .ok (.iload_n 2, 1) := by decide +kernel
theorem d_method_3_code_2 : decode method_3_code 2 = .ok (.if_icmp .lt 5, 3) := by decide +kernel
theorem d_method_3_code_7 : decode method_3_code 7 = .ok (.lload_n 3, 1) := by decide +kernel
theorem d_method_3_code_8 : decode method_3_code 8 = .ok (.iload_n 1, 1) := by decide +kernel
theorem d_method_3_code_9 : decode method_3_code 9 = .ok (.i2l, 1) := by decide +kernel
theorem d_method_3_code_10 : decode method_3_code 10 = .ok (.lload 5, 2) := by decide +kernel
theorem d_method_3_code_12 : decode method_3_code 12 = .ok (.lmul, 1) := by decide +kernel
theorem d_method_3_code_13 : decode method_3_code 13 = .ok (.ladd, 1) := by decide +kernel
theorem d_method_3_code_14 : decode method_3_code 14 = .ok (.lstore 7, 2) := by decide +kernel
theorem d_method_3_code_16 : decode method_3_code 16 = .ok (.aload_n 0, 1) := by decide +kernel
theorem d_method_3_code_17 : decode method_3_code 17 = .ok (.iload_n 1, 1) := by decide +kernel
theorem d_method_3_code_18 : decode method_3_code 18 = .ok (.daload, 1) := by decide +kernel
theorem d_method_3_code_19 : decode method_3_code 19 = .ok (.lload 7, 2) := by decide +kernel
theorem d_method_3_code_21 : decode method_3_code 21 = .ok (.l2d, 1) := by decide +kernel
theorem d_method_3_code_22 : decode method_3_code 22 = .ok (.dcmp .l, 1) := by decide +kernel
theorem d_method_3_code_23 : decode method_3_code 23 = .ok (.ifCond .ne 7, 3) := by decide +kernel
theorem d_method_3_code_26 : decode method_3_code 26 = .ok (.iconst 1, 1) := by decide +kernel
theorem d_method_3_code_27 : decode method_3_code 27 = .ok (.goto 4, 3) := by decide +kernel
theorem d_method_3_code_31 : decode method_3_code 31 = .ok (.ireturn, 1) := by decide +kernel
theorem d_method_3_code_5 : decode method_3_code 5 = .ok (.iconst 1, 1) := by decide +kernel
theorem d_method_3_code_6 : decode method_3_code 6 = .ok (.ireturn, 1) := by decide +kernel
set_option maxRecDepth 65536 in
set_option maxHeartbeats 40000000 in
theorem rmT (l : Launch) (Z : State) (a0 : Array Value) (hw : ∀ d ∈ tables_1, d.before a0 Z = true) (ws : List Jvm.Cond) (a : Addr) (k : Int32) (y : Int32) (i : Int64) (h : Int64) (vs : List Value) (x : UInt64) (J : Int) (h0 : Heap) (n0 : Nat) (Z0 : n0 ≤ h0.size) (A1 : own_A Z h0 a .double vs) (hk : k < y → ¬ k < 0 ∧ vs[k.toNatClampNeg]? = some (.double x) ∧ FP.Core.DInt J x ∧ FP.Core.DInt J (FP.l2d (i + (k.toInt64 * h)))) :
    MetFree l mn13 (head1 (Jvm.Cond.code mn13 method_3_code 9 (some .boolean) :: ws) ({ frames := 0, cells := 0, slots := 0, locals := 0 } : Room)) (fun aA U => aA = #[(.ref a), (.int k), (.int y), (.long i), (.long h)] ∧ Z.Warmed39 U.vm ∧ U.heap = h0) (fun _ _ _ _ _ => True) (fun _ U o U' => ∃ vR LR, o = .returned vR ∧ QrmT Z a k y i h vs x J h0 n0 vR U'.heap LR ∧ FrameEnd U o U' LR ({ frames := 0, cells := 0, slots := 0, locals := 0 } : Room).cells ({ frames := 0, cells := 0, slots := 0, locals := 0 } : Room).slots) := by
  refine MetFree.of_bodySF (plainFor_of_name pn_com_example_capwright_capwright_premise_ConstantAmountChangeIncomesPinLaw) hisR ?_
  intro p e s m args below meth c s₁ Bd hml0 hPre hKk
  obtain ⟨rfl, hZ, hh⟩ := hPre
  have hx := Bd.exec
  have hby := Bd.bytes
  have hml : c.maxLocals = 9 := hml0
  have hown : s.vm.findClass "com/example/capwright/capwright/premise/ConstantAmountChangeIncomesPinLaw" = some m.cls := findClass_of_methodNamed Bd.named
  have hnm := (name_of_methodNamed Bd.named Bd.method).1
  have X0 : Stand p l e ({ frames := 0, cells := 0, slots := 0, locals := 0 } : Room) s m #[(.ref a), (.int k), (.int y), (.long i), (.long h)] below meth c s₁ [] 0 0 := Stand.of_body Bd
  have e0 : s₁.heap = h0 := by rw [← hh, Bd.state]; rfl
  have N0 := Fr.nil n0
  obtain ⟨E0, hE0⟩ : ∃ zE : State, zE = s₁.setTop (entryFrame m #[(.ref a), (.int k), (.int y), (.long i), (.long h)] 9) := ⟨_, rfl⟩
  have k0 : own_G p e below E0 s₁ (mkF m 0 #[vr a, vi k, vi y, vj i, ss, vj h, ss, uu, uu] []) := fun tz kz => hE0 ▸ castTop (ef_rmT m a k y i h vs x J) kz
  have k1349 : own_G p e below E0 s₁ (mkF m 2 #[vr a, vi k, vi y, vj i, ss, vj h, ss, uu, uu] [(.int y), (.int k)]) := by
    intro tQ kk
    refine k0 tQ ?_
    refine XS.iloadN X0.here hx rfl (hb hby d_method_3_code_0) rfl ?_
    refine XS.iloadN X0.here hx rfl (hb hby d_method_3_code_1) rfl ?_
    exact kk
  clear k0
  by_cases ck : k < y
  · skip
    have k1351 : own_G p e below E0 s₁ (mkF m 18 #[vr a, vi k, vi y, vj i, ss, vj h, ss, vj (i + ((k.toInt64) * h)), ss] [(.int k), (.ref a)]) := by
      intro tQ kk
      refine k1349 tQ ?_
      refine XS.icmpYes X0.here hx rfl (pc0 := 2) (pc' := 7) rfl (hb hby d_method_3_code_2) rfl (own_ic_ltY ck) (by decide) (by decide) ?_
      refine XT.lloadN X0.here hx rfl (hb hby d_method_3_code_7) rfl ?_
      refine XS.iloadN X0.here hx rfl (hb hby d_method_3_code_8) rfl ?_
      refine XT.i2l X0.here hx rfl (hb hby d_method_3_code_9) rfl ?_
      show Steps p.tables e below (s₁.setTop (mkF m 10 #[vr a, vi k, vi y, vj i, ss, vj h, ss, uu, uu] [(.long (k.toInt64)), (.long i)])) tQ
      refine XT.lload X0.here hx rfl (hb hby d_method_3_code_10) rfl ?_
      refine XT.lmul X0.here hx rfl (hb hby d_method_3_code_12) rfl ?_
      refine XT.ladd X0.here hx rfl (hb hby d_method_3_code_13) rfl ?_
      refine XT.lstore X0.here hx rfl (hb hby d_method_3_code_14) rfl (l' := #[vr a, vi k, vi y, vj i, ss, vj h, ss, vj (i + ((k.toInt64) * h)), ss]) rfl ?_
      show Steps p.tables e below (s₁.setTop (mkF m 16 #[vr a, vi k, vi y, vj i, ss, vj h, ss, vj (i + ((k.toInt64) * h)), ss] [])) tQ
      refine XS.aloadN X0.here hx rfl (hb hby d_method_3_code_16) rfl rfl ?_
      refine XS.iloadN X0.here hx rfl (hb hby d_method_3_code_17) rfl ?_
      exact kk
    clear k1349
    have st1352 := fun tQ => own_A.dld X0 hx hZ e0 A1 (j := k) (v := (.double x)) (hk ck).1 (hk ck).2.1 (g := (mkF m 18 #[vr a, vi k, vi y, vj i, ss, vj h, ss, vj (i + ((k.toInt64) * h)), ss] [(.int k), (.ref a)])) rfl rfl (hb hby d_method_3_code_18) tQ
    have k1353 : own_G p e below E0 s₁ (mkF m 19 #[vr a, vi k, vi y, vj i, ss, vj h, ss, vj (i + ((k.toInt64) * h)), ss] [(.double x)]) := fun tQ kk => k1351 tQ (st1352 _ kk)
    clear k1351 st1352
    have k1354 : own_G p e below E0 s₁ (mkF m 31 #[vr a, vi k, vi y, vj i, ss, vj h, ss, vj (i + ((k.toInt64) * h)), ss] [(.int (1 : Int32))]) := by
      intro tQ kk
      refine k1353 tQ ?_
      refine XT.lload X0.here hx rfl (hb hby d_method_3_code_19) rfl ?_
      refine XS.l2dS X0.here hx rfl (hb hby d_method_3_code_21) rfl rfl ?_
      refine XS.dcmpS (v := (0 : Int32)) X0.here hx rfl (hb hby d_method_3_code_22) rfl (own_eq0 .l (hk ck).2.2.1 (hk ck).2.2.2) ?_
      refine XS.ifNo X0.here hx rfl (hb hby d_method_3_code_23) rfl (own_if_neN (by decide)) ?_
      show Steps p.tables e below (s₁.setTop (mkF m 26 #[vr a, vi k, vi y, vj i, ss, vj h, ss, vj (i + ((k.toInt64) * h)), ss] [])) tQ
      refine XS.iconst X0.here hx rfl (hb hby d_method_3_code_26) ?_
      refine XS.goto X0.here hx rfl (pc0 := 27) (pc' := 31) rfl (hb hby d_method_3_code_27) (by decide) (by decide) ?_
      exact kk
    clear k1353
    obtain ⟨fs, hr, hrun, hended, hW, hsame⟩ := X0.leave (v := some (.int (1 : Int32))) (fun h => by rw [Bd.returns] at h; cases h)
    have hrun0 := k1354 _ (retOut X0 hx Bd.returns (t := .boolean) rfl (Or.inl ⟨rfl, Or.inr (Or.inl rfl), _, rfl⟩) (hb hby d_method_3_code_31) hr)
    subst hE0
    refine ⟨_, _, hrun0, hrun, hended, _, _, rfl, ?_, ⟨_, rfl⟩, hW, hsame.mono (by decide) (by decide)⟩
    show QrmT Z a k y i h vs x J h0 n0 _ s₁.heap _
    rw [e0]
    exact ⟨rfl, N0, rfl⟩
  · skip
    have k1355 : own_G p e below E0 s₁ (mkF m 6 #[vr a, vi k, vi y, vj i, ss, vj h, ss, uu, uu] [(.int (1 : Int32))]) := by
      intro tQ kk
      refine k1349 tQ ?_
      refine XS.icmpNo X0.here hx rfl (hb hby d_method_3_code_2) rfl (own_ic_ltN ck) ?_
      refine XS.iconst X0.here hx rfl (hb hby d_method_3_code_5) ?_
      exact kk
    clear k1349
    obtain ⟨fs, hr, hrun, hended, hW, hsame⟩ := X0.leave (v := some (.int (1 : Int32))) (fun h => by rw [Bd.returns] at h; cases h)
    have hrun0 := k1355 _ (retOut X0 hx Bd.returns (t := .boolean) rfl (Or.inl ⟨rfl, Or.inr (Or.inl rfl), _, rfl⟩) (hb hby d_method_3_code_6) hr)
    subst hE0
    refine ⟨_, _, hrun0, hrun, hended, _, _, rfl, ?_, ⟨_, rfl⟩, hW, hsame.mono (by decide) (by decide)⟩
    show QrmT Z a k y i h vs x J h0 n0 _ s₁.heap _
    rw [e0]
    exact ⟨rfl, N0, rfl⟩
def Qrm0 (Z : State) (p0 : Int32) (p1 : Int32) (p2 : Int32) (p3 : Int32) (h0 : Heap) (n0 : Nat) (vQ : Option Value) (hQ : Heap) (LQ : List Loc) : Prop := vQ = some (.int (1 : Int32)) ∧ Fr n0 LQ
theorem ef_rm0 (m : MethodId) (p0 : Int32) (p1 : Int32) (p2 : Int32) (p3 : Int32) : entryFrame m #[(.int p0), (.int p1), (.int p2), (.int p3)] maxLocals = mkF m 0 #[vi p0, vi p1, vi p2, vi p3, uu, uu, uu, uu, uu, uu, uu] [] := by first | (simp [entryFrame, mkF, argsToLocals, Value.category, maxLocals]; done) | rfl
def tw0 {Z : State} {a0 : Array Value} (hw : ∀ d ∈ tables_1, d.before a0 Z = true) := hw _ (List.mem_of_getElem? (i := 0) rfl)
def tw2 {Z : State} {a0 : Array Value} (hw : ∀ d ∈ tables_1, d.before a0 Z = true) := hw _ (List.mem_of_getElem? (i := 2) rfl)
def tw3 {Z : State} {a0 : Array Value} (hw : ∀ d ∈ tables_1, d.before a0 Z = true) := hw _ (List.mem_of_getElem? (i := 3) rfl)
def tw5 {Z : State} {a0 : Array Value} (hw : ∀ d ∈ tables_1, d.before a0 Z = true) := hw _ (List.mem_of_getElem? (i := 5) rfl)
theorem pd_14 : parseMethodDescriptor "(DID)V" = some ⟨[.double, .int, .double], none⟩ := by decide +kernel
def tw4 {Z : State} {a0 : Array Value} (hw : ∀ d ∈ tables_1, d.before a0 Z = true) := hw _ (List.mem_of_getElem? (i := 4) rfl)
def tw33 {Z : State} {a0 : Array Value} (hw : ∀ d ∈ tables_1, d.before a0 Z = true) := hw _ (List.mem_of_getElem? (i := 33) rfl)
def tw36 {Z : State} {a0 : Array Value} (hw : ∀ d ∈ tables_1, d.before a0 Z = true) := hw _ (List.mem_of_getElem? (i := 36) rfl)
def tw37 {Z : State} {a0 : Array Value} (hw : ∀ d ∈ tables_1, d.before a0 Z = true) := hw _ (List.mem_of_getElem? (i := 37) rfl)
theorem pd_15 : parseMethodDescriptor "(D)[D" = some ⟨[.double], some (.array .double)⟩ := by decide +kernel
def tw34 {Z : State} {a0 : Array Value} (hw : ∀ d ∈ tables_1, d.before a0 Z = true) := hw _ (List.mem_of_getElem? (i := 34) rfl)
def tw35 {Z : State} {a0 : Array Value} (hw : ∀ d ∈ tables_1, d.before a0 Z = true) := hw _ (List.mem_of_getElem? (i := 35) rfl)
def tw39 {Z : State} {a0 : Array Value} (hw : ∀ d ∈ tables_1, d.before a0 Z = true) := hw _ (List.mem_of_getElem? (i := 39) rfl)
def tw42 {Z : State} {a0 : Array Value} (hw : ∀ d ∈ tables_1, d.before a0 Z = true) := hw _ (List.mem_of_getElem? (i := 42) rfl)
def tw41 {Z : State} {a0 : Array Value} (hw : ∀ d ∈ tables_1, d.before a0 Z = true) := hw _ (List.mem_of_getElem? (i := 41) rfl)
theorem pd_16 : parseMethodDescriptor "([DIIJJ)Z" = some ⟨[(.array .double), .int, .int, .long, .long], some .boolean⟩ := by decide +kernel
def tw40 {Z : State} {a0 : Array Value} (hw : ∀ d ∈ tables_1, d.before a0 Z = true) := hw _ (List.mem_of_getElem? (i := 40) rfl)
set_option maxRecDepth 65536 in
set_option maxHeartbeats 40000000 in
theorem rm0 (l : Launch) (Z : State) (a0 : Array Value) (hw : ∀ d ∈ tables_1, d.before a0 Z = true) (ws : List Jvm.Cond) (p0 : Int32) (p1 : Int32) (p2 : Int32) (p3 : Int32) (h0 : Heap) (n0 : Nat) (Z0 : n0 ≤ h0.size)  :
    MetFree l x (head1 (Jvm.Cond.code x code maxLocals ret :: ws) room_1) (fun aA U => aA = #[(.int p0), (.int p1), (.int p2), (.int p3)] ∧ Z.Warmed39 U.vm ∧ U.heap = h0) (fun _ _ _ _ _ => True) (fun _ U o U' => ∃ vR LR, o = .returned vR ∧ Qrm0 Z p0 p1 p2 p3 h0 n0 vR U'.heap LR ∧ FrameEnd U o U' LR 16 128) := by
  refine MetFree.of_bodySF (plainFor_of_name pn_com_example_capwright_capwright_premise_ConstantAmountChangeIncomesPinLaw) hisR ?_
  intro p e s m args below meth c s₁ Bd hml0 hPre hKk
  obtain ⟨rfl, hZ, hh⟩ := hPre
  have hx := Bd.exec
  have hby := Bd.bytes
  have hml : c.maxLocals = 11 := hml0
  have hown : s.vm.findClass "com/example/capwright/capwright/premise/ConstantAmountChangeIncomesPinLaw" = some m.cls := findClass_of_methodNamed Bd.named
  have hnm := (name_of_methodNamed Bd.named Bd.method).1
  have X0 : Stand p l e room_1 s m #[(.int p0), (.int p1), (.int p2), (.int p3)] below meth c s₁ [] 0 0 := Stand.of_body Bd
  have e0 : s₁.heap = h0 := by rw [← hh, Bd.state]; rfl
  have N0 := Fr.nil n0
  obtain ⟨E0, hE0⟩ : ∃ zE : State, zE = s₁.setTop (entryFrame m #[(.int p0), (.int p1), (.int p2), (.int p3)] maxLocals) := ⟨_, rfl⟩
  have k0 : own_G p e below E0 s₁ (mkF m 0 #[vi p0, vi p1, vi p2, vi p3, uu, uu, uu, uu, uu, uu, uu] []) := fun tz kz => hE0 ▸ castTop (ef_rm0 m p0 p1 p2 p3) kz
  have k1356 : own_G p e below E0 s₁ (mkF m 6 #[vi p0, vi p1, vi p2, vi p3, uu, uu, uu, uu, uu, uu, uu] [(.int ((p0 &&& (7 : Int32)) + (1 : Int32)))]) := by
    intro tQ kk
    refine k0 tQ ?_
    refine XS.iloadN X0.here hx rfl (hb hby at_0) rfl ?_
    refine XS.bipush X0.here hx rfl (hb hby at_1) ?_
    refine XS.iand X0.here hx rfl (hb hby at_3) rfl ?_
    refine XS.iconst X0.here hx rfl (hb hby at_4) ?_
    show Steps p.tables e below (s₁.setTop (mkF m 5 #[vi p0, vi p1, vi p2, vi p3, uu, uu, uu, uu, uu, uu, uu] [(.int (1 : Int32)), (.int (p0 &&& (7 : Int32)))])) tQ
    refine XS.iadd X0.here hx rfl (hb hby at_5) rfl ?_
    exact kk
  clear k0
  obtain ⟨N, hN⟩ : ∃ vA, vA = ((p0 &&& (7 : Int32)) + (1 : Int32)) := ⟨_, rfl⟩
  have k1357 : own_G p e below E0 s₁ (mkF m 6 #[vi p0, vi p1, vi p2, vi p3, uu, uu, uu, uu, uu, uu, uu] [(.int N)]) := by rw [hN]; exact k1356
  rcases (own_n8 p0 hN) with rfl | rfl | rfl | rfl | rfl | rfl | rfl | rfl
  · skip
    have k1358 : own_G p e below E0 s₁ (mkF m 8 #[vi p0, vi p1, vi p2, vi p3, vi (1 : Int32), uu, uu, uu, uu, uu, uu] []) := by
      intro tQ kk
      refine k1357 tQ ?_
      refine XS.istore X0.here hx rfl (hb hby at_6) rfl (l' := #[vi p0, vi p1, vi p2, vi p3, vi (1 : Int32), uu, uu, uu, uu, uu, uu]) rfl ?_
      exact kk
    clear k1357
    obtain ⟨T1359, h1360, X1361, e1362, E1363, A1364, D1365, -, st1366⟩ := newO X0 hx hZ hown (tw0 hw) (tw1 hw) (tw2 hw) e0 (g := (mkF m 8 #[vi p0, vi p1, vi p2, vi p3, vi (1 : Int32), uu, uu, uu, uu, uu, uu] [])) rfl (hb hby at_8) (by decide) (by decide)
    obtain ⟨a1367, g1368⟩ : ∃ zA : Nat, zA = h0.size := ⟨_, rfl⟩
    rw [← g1368] at A1364 D1365 st1366
    have ge1369 : n0 ≤ a1367 := own_ge_of Z0 g1368
    have Z1370 : n0 ≤ h1360.size := Nat.le_trans Z0 E1363.1
    have F1371 : Fld Z h1360 a1367 "com/example/capwright/capwright/premise/ConstantAmountChange" "yieldRate" "D" (.double (0 : UInt64)) := (D1365 (Or.inr (tw28 hw)) (ty := .double) (by decide))
    have F1372 : Fld Z h1360 a1367 "com/example/capwright/capwright/premise/ConstantAmountChange" "years" "I" (.int (0 : Int32)) := (D1365 (Or.inr (tw30 hw)) (ty := .int) (by decide))
    have F1373 : Fld Z h1360 a1367 "com/example/capwright/capwright/premise/ConstantAmountChange" "step" "D" (.double (0 : UInt64)) := (D1365 (Or.inr (tw32 hw)) (ty := .double) (by decide))
    have k1374 : own_G p e below E0 T1359 (mkF m 11 #[vi p0, vi p1, vi p2, vi p3, vi (1 : Int32), uu, uu, uu, uu, uu, uu] [(.ref a1367)]) := fun tQ kk => k1358 tQ (st1366 _ kk)
    clear k1358 st1366
    have k1375 : own_G p e below E0 T1359 (mkF m 18 #[vi p0, vi p1, vi p2, vi p3, vi (1 : Int32), uu, uu, uu, uu, uu, uu] [(.double (FP.i2d p2)), (.int (1 : Int32)), (.double (FP.i2d p3)), (.ref a1367), (.ref a1367)]) := by
      intro tQ kk
      refine k1374 tQ ?_
      refine XS.dup X1361.here hx rfl (hb hby at_11) rfl rfl ?_
      refine XS.iloadN X1361.here hx rfl (hb hby at_12) rfl ?_
      refine XS.i2dS X1361.here hx rfl (hb hby at_13) rfl rfl ?_
      refine XS.iload X1361.here hx rfl (hb hby at_14) rfl ?_
      show Steps p.tables e below (T1359.setTop (mkF m 16 #[vi p0, vi p1, vi p2, vi p3, vi (1 : Int32), uu, uu, uu, uu, uu, uu] [(.int (1 : Int32)), (.double (FP.i2d p3)), (.ref a1367), (.ref a1367)])) tQ
      refine XS.iloadN X1361.here hx rfl (hb hby at_16) rfl ?_
      refine XS.i2dS X1361.here hx rfl (hb hby at_17) rfl rfl ?_
      exact kk
    clear k1374
    obtain ⟨_, _, ⟨T1376, L1377, kc1378, nc1379⟩, -, X1380, ⟨Lc1381, hQ1382, l1383, y1384, z1385⟩, st1386⟩ := X1361.specialBack hx (y := mn8) rfl hown (mvT hZ (tw3 hw)) (mvT hZ (tw4 hw)) (mvT hZ (tw5 hw)) (by decide) (backOf (W := 1) (rmI l Z a0 hw [] a1367 (FP.i2d p3) (1 : Int32) (FP.i2d p2) h1360 n0 Z1370 A1364 F1371 F1372 F1373 ge1369 (by decide) (Fl.i2d_fin p2)) hZ (tw5 hw) (tw2 hw) (by decide) (by decide)) (g := (mkF m 18 #[vi p0, vi p1, vi p2, vi p3, vi (1 : Int32), uu, uu, uu, uu, uu, uu] [(.double (FP.i2d p2)), (.int (1 : Int32)), (.double (FP.i2d p3)), (.ref a1367), (.ref a1367)])) rfl (by rw [hml]; rfl) (Steps.refl _) (a := a1367) (argsL := [(.double (FP.i2d p3)), (.int (1 : Int32)), (.double (FP.i2d p2))]) (rest := [(.ref a1367)]) (lenOf pd_14 rfl) rfl (by show 2 * 0 + _ ≤ _; exact Nat.le_of_eq rfl) (hb hby at_18) (fun _ _ => ⟨rfl, e1362, (by decide : 1 + 0 ≤ _), (by decide : 3 + 0 ≤ _)⟩)
    dsimp only [Pt.U, Pt.locs, Pt.cells, Pt.slots] at X1380 l1383 y1384 z1385 st1386 hQ1382
    subst l1383 y1384 z1385
    obtain ⟨rfl, N1387, K1390, g1391, g1392, g1393⟩ := hQ1382
    have N1394 := Fr.app N0 N1387
    have Z1395 : n0 ≤ T1376.heap.size := Nat.le_trans Z1370 K1390.1
    have F1396 : xa7 Z T1376.heap a1367 := A1364.keep K1390
    clear A1364
    clear F1371
    clear F1372
    clear F1373
    have k1400 : own_G p e below E0 T1376 (mkF m 21 #[vi p0, vi p1, vi p2, vi p3, vi (1 : Int32), uu, uu, uu, uu, uu, uu] [(.ref a1367)]) := fun tQ kk => k1375 tQ (st1386.trans kk)
    clear k1375 st1386
    have k1401 : own_G p e below E0 T1376 (mkF m 27 #[vi p0, vi p1, vi p2, vi p3, vi (1 : Int32), vr a1367, uu, uu, uu, uu, uu] [(.double (FP.i2d p1)), (.ref a1367)]) := by
      intro tQ kk
      refine k1400 tQ ?_
      refine XS.astore X1380.here hx rfl (hb hby at_21) rfl rfl (l' := #[vi p0, vi p1, vi p2, vi p3, vi (1 : Int32), vr a1367, uu, uu, uu, uu, uu]) rfl ?_
      refine XS.aload X1380.here hx rfl (hb hby at_23) rfl rfl ?_
      refine XS.iloadN X1380.here hx rfl (hb hby at_25) rfl ?_
      refine XS.i2dS X1380.here hx rfl (hb hby at_26) rfl rfl ?_
      exact kk
    clear k1400
    obtain ⟨cq1413, kq1414, qa1415, qb1416, qc1417⟩ := isOf hZ rfl F1396
    obtain ⟨_, _, ⟨T1402, L1403, kc1404, nc1405⟩, -, X1406, ⟨Lc1407, hQ1408, l1409, y1410, z1411⟩, st1412⟩ := X1380.virtualBack hx (y := mn12) (z := mn12) hown (mvT hZ (tw33 hw)) (mvT hZ (tw34 hw)) (notFace_of_selects (args := #[]) (mvT hZ (tw36 hw))) (mvT hZ (tw36 hw)) (mvT hZ (tw35 hw)) (by decide) (backOf (W := 0) (rmV1 l Z a0 hw [] a1367 (FP.i2d p1) (FP.i2d p2) T1376.heap n0 Z1395 g1392 g1393 (own_nn8 p1 p2)) hZ (tw37 hw) (tw2 hw) (by decide) (by decide)) qa1415 qc1417 (g := (mkF m 27 #[vi p0, vi p1, vi p2, vi p3, vi (1 : Int32), vr a1367, uu, uu, uu, uu, uu] [(.double (FP.i2d p1)), (.ref a1367)])) rfl (by rw [hml]; rfl) (Steps.refl _) (argsL := [(.double (FP.i2d p1))]) (rest := []) (lenOf pd_15 rfl) rfl (by show 2 * 0 + _ ≤ _; exact Nat.le_of_eq rfl) (hb hby at_27) (fun _ _ => ⟨rfl, rfl, (by decide : 1 + 1 ≤ _), (by decide : 3 + 1 ≤ _)⟩)
    dsimp only [Pt.U, Pt.locs, Pt.cells, Pt.slots] at X1406 l1409 y1410 z1411 st1412 hQ1408
    subst l1409 y1410 z1411
    obtain ⟨r1421, rfl, N1418, K1422, g1423⟩ := hQ1408
    have N1424 := Fr.app N1394 N1418
    have Z1425 : n0 ≤ T1402.heap.size := Nat.le_trans Z1395 K1422.1
    have F1426 : xa7 Z T1402.heap a1367 := F1396.keep K1422
    clear F1396
    have F1427 : fd4 Z T1402.heap a1367 (.double (FP.i2d p3)) := g1391.keep K1422 nin0
    clear g1391
    have F1428 : fd5 Z T1402.heap a1367 (.int (1 : Int32)) := g1392.keep K1422 nin0
    clear g1392
    have F1429 : fd6 Z T1402.heap a1367 (.double (FP.i2d p2)) := g1393.keep K1422 nin0
    clear g1393
    have k1430 : own_G p e below E0 T1402 (mkF m 30 #[vi p0, vi p1, vi p2, vi p3, vi (1 : Int32), vr a1367, uu, uu, uu, uu, uu] [(.ref r1421)]) := fun tQ kk => k1401 tQ (st1412.trans kk)
    clear k1401 st1412
    have k1431 : own_G p e below E0 T1402 (mkF m 34 #[vi p0, vi p1, vi p2, vi p3, vi (1 : Int32), vr a1367, vr r1421, uu, uu, uu, uu] [(.ref r1421)]) := by
      intro tQ kk
      refine k1430 tQ ?_
      refine XS.astore X1406.here hx rfl (hb hby at_30) rfl rfl (l' := #[vi p0, vi p1, vi p2, vi p3, vi (1 : Int32), vr a1367, vr r1421, uu, uu, uu, uu]) rfl ?_
      refine XS.aload X1406.here hx rfl (hb hby at_32) rfl rfl ?_
      exact kk
    clear k1430
    have st1432 := fun tQ => own_A.len X1406 hx hZ rfl g1423 (g := (mkF m 34 #[vi p0, vi p1, vi p2, vi p3, vi (1 : Int32), vr a1367, vr r1421, uu, uu, uu, uu] [(.ref r1421)])) rfl rfl (hb hby at_34) tQ
    have k1433 : own_G p e below E0 T1402 (mkF m 35 #[vi p0, vi p1, vi p2, vi p3, vi (1 : Int32), vr a1367, vr r1421, uu, uu, uu, uu] [(.int (1 : Int32))]) := fun tQ kk => k1431 tQ (st1432 _ kk)
    clear k1431 st1432
    have k1434 : own_G p e below E0 T1402 (mkF m 59 #[vi p0, vi p1, vi p2, vi p3, vi (1 : Int32), vr a1367, vr r1421, vj (p1.toInt64), ss, vj (p2.toInt64), ss] [(.long (p2.toInt64)), (.long (p1.toInt64)), (.int (1 : Int32)), (.int (0 : Int32)), (.ref r1421)]) := by
      intro tQ kk
      refine k1433 tQ ?_
      refine XS.iload X1406.here hx rfl (hb hby at_35) rfl ?_
      refine XS.icmpYes X1406.here hx rfl (pc0 := 37) (pc' := 42) rfl (hb hby at_37) rfl (own_ic_eqY (by decide)) (by decide) (by decide) ?_
      refine XS.iloadN X1406.here hx rfl (hb hby at_42) rfl ?_
      refine XT.i2l X1406.here hx rfl (hb hby at_43) rfl ?_
      show Steps p.tables e below (T1402.setTop (mkF m 44 #[vi p0, vi p1, vi p2, vi p3, vi (1 : Int32), vr a1367, vr r1421, uu, uu, uu, uu] [(.long (p1.toInt64))])) tQ
      refine XT.lstore X1406.here hx rfl (hb hby at_44) rfl (l' := #[vi p0, vi p1, vi p2, vi p3, vi (1 : Int32), vr a1367, vr r1421, vj (p1.toInt64), ss, uu, uu]) rfl ?_
      refine XS.iloadN X1406.here hx rfl (hb hby at_46) rfl ?_
      refine XT.i2l X1406.here hx rfl (hb hby at_47) rfl ?_
      refine XT.lstore X1406.here hx rfl (hb hby at_48) rfl (l' := #[vi p0, vi p1, vi p2, vi p3, vi (1 : Int32), vr a1367, vr r1421, vj (p1.toInt64), ss, vj (p2.toInt64), ss]) rfl ?_
      show Steps p.tables e below (T1402.setTop (mkF m 50 #[vi p0, vi p1, vi p2, vi p3, vi (1 : Int32), vr a1367, vr r1421, vj (p1.toInt64), ss, vj (p2.toInt64), ss] [])) tQ
      refine XS.aload X1406.here hx rfl (hb hby at_50) rfl rfl ?_
      refine XS.iconst X1406.here hx rfl (hb hby at_52) ?_
      refine XS.iload X1406.here hx rfl (hb hby at_53) rfl ?_
      refine XT.lload X1406.here hx rfl (hb hby at_55) rfl ?_
      show Steps p.tables e below (T1402.setTop (mkF m 57 #[vi p0, vi p1, vi p2, vi p3, vi (1 : Int32), vr a1367, vr r1421, vj (p1.toInt64), ss, vj (p2.toInt64), ss] [(.long (p1.toInt64)), (.int (1 : Int32)), (.int (0 : Int32)), (.ref r1421)])) tQ
      refine XT.lload X1406.here hx rfl (hb hby at_57) rfl ?_
      exact kk
    clear k1433
    obtain ⟨_, _, ⟨T1435, L1436, kc1437, nc1438⟩, -, X1439, ⟨Lc1440, hQ1441, l1442, y1443, z1444⟩, st1445⟩ := Jvm.LawKit.callS X1406 hx (y := mn13) hown (mvT hZ (tw39 hw)) (mvT hZ (tw40 hw)) (mvT hZ (tw41 hw)) (mvT hZ (tw42 hw)) (by decide) (backOf (W := 0) (rmT l Z a0 hw [] r1421 (0 : Int32) (1 : Int32) (p1.toInt64) (p2.toInt64) ([(.double (FP.dadd (FP.i2d p1) (FP.dmul (FP.i2d (0 : Int32)) (FP.i2d p2))))]) (FP.dadd (FP.i2d p1) (FP.dmul (FP.i2d (0 : Int32)) (FP.i2d p2))) (p1.toInt + 0 * p2.toInt) T1402.heap n0 Z1425 g1423 (fun _ => ⟨by decide, rfl, own_el p1 p2 (0 : Int32) 0 rfl (by decide) (by decide), own_le p1 p2 (0 : Int32) 0 rfl (by decide) (by decide)⟩)) hZ (tw42 hw) (tw41 hw) (by decide) (by decide)) (g := (mkF m 59 #[vi p0, vi p1, vi p2, vi p3, vi (1 : Int32), vr a1367, vr r1421, vj (p1.toInt64), ss, vj (p2.toInt64), ss] [(.long (p2.toInt64)), (.long (p1.toInt64)), (.int (1 : Int32)), (.int (0 : Int32)), (.ref r1421)])) rfl (by rw [hml]; rfl) (argsL := [(.ref r1421), (.int (0 : Int32)), (.int (1 : Int32)), (.long (p1.toInt64)), (.long (p2.toInt64))]) (rest := []) (lenOf pd_16 rfl) rfl (by show 2 * 0 + _ ≤ _; exact Nat.le_of_eq rfl) (hb hby at_59) (fun _ _ => ⟨rfl, rfl, (by decide : 2 + 0 ≤ _), (by decide : 4 + 0 ≤ _)⟩)
    dsimp only [Pt.U, Pt.locs, Pt.cells, Pt.slots] at X1439 l1442 y1443 z1444 st1445 hQ1441
    subst l1442 y1443 z1444
    obtain ⟨rfl, N1446, e1447⟩ := hQ1441
    have N1449 := Fr.app N1424 N1446
    have k1450 : own_G p e below E0 T1435 (mkF m 62 #[vi p0, vi p1, vi p2, vi p3, vi (1 : Int32), vr a1367, vr r1421, vj (p1.toInt64), ss, vj (p2.toInt64), ss] [(.int (1 : Int32))]) := fun tQ kk => k1434 tQ (st1445 _ kk)
    clear k1434 st1445
    have k1451 : own_G p e below E0 T1435 (mkF m 74 #[vi p0, vi p1, vi p2, vi p3, vi (1 : Int32), vr a1367, vr r1421, vj (p1.toInt64), ss, vj (p2.toInt64), ss] [(.long (p2.toInt64)), (.long (p1.toInt64)), (.int (1 : Int32)), (.int (1 : Int32)), (.ref r1421)]) := by
      intro tQ kk
      refine k1450 tQ ?_
      refine XS.ifNo X1439.here hx rfl (hb hby at_62) rfl (own_if_eqN (by decide)) ?_
      refine XS.aload X1439.here hx rfl (hb hby at_65) rfl rfl ?_
      refine XS.iconst X1439.here hx rfl (hb hby at_67) ?_
      refine XS.iload X1439.here hx rfl (hb hby at_68) rfl ?_
      show Steps p.tables e below (T1435.setTop (mkF m 70 #[vi p0, vi p1, vi p2, vi p3, vi (1 : Int32), vr a1367, vr r1421, vj (p1.toInt64), ss, vj (p2.toInt64), ss] [(.int (1 : Int32)), (.int (1 : Int32)), (.ref r1421)])) tQ
      refine XT.lload X1439.here hx rfl (hb hby at_70) rfl ?_
      refine XT.lload X1439.here hx rfl (hb hby at_72) rfl ?_
      exact kk
    clear k1450
    obtain ⟨_, _, ⟨T1452, L1453, kc1454, nc1455⟩, -, X1456, ⟨Lc1457, hQ1458, l1459, y1460, z1461⟩, st1462⟩ := Jvm.LawKit.callS X1439 hx (y := mn13) hown (mvT hZ (tw39 hw)) (mvT hZ (tw40 hw)) (mvT hZ (tw41 hw)) (mvT hZ (tw42 hw)) (by decide) (backOf (W := 0) (rmT l Z a0 hw [] r1421 (1 : Int32) (1 : Int32) (p1.toInt64) (p2.toInt64) ([(.double (FP.dadd (FP.i2d p1) (FP.dmul (FP.i2d (0 : Int32)) (FP.i2d p2))))]) 0 0 T1402.heap n0 Z1425 g1423 (fun z => absurd z (by decide))) hZ (tw42 hw) (tw41 hw) (by decide) (by decide)) (g := (mkF m 74 #[vi p0, vi p1, vi p2, vi p3, vi (1 : Int32), vr a1367, vr r1421, vj (p1.toInt64), ss, vj (p2.toInt64), ss] [(.long (p2.toInt64)), (.long (p1.toInt64)), (.int (1 : Int32)), (.int (1 : Int32)), (.ref r1421)])) rfl (by rw [hml]; rfl) (argsL := [(.ref r1421), (.int (1 : Int32)), (.int (1 : Int32)), (.long (p1.toInt64)), (.long (p2.toInt64))]) (rest := []) (lenOf pd_16 rfl) rfl (by show 2 * 0 + _ ≤ _; exact Nat.le_of_eq rfl) (hb hby at_74) (fun _ _ => ⟨rfl, e1447, (by decide : 2 + 0 ≤ _), (by decide : 4 + 0 ≤ _)⟩)
    dsimp only [Pt.U, Pt.locs, Pt.cells, Pt.slots] at X1456 l1459 y1460 z1461 st1462 hQ1458
    subst l1459 y1460 z1461
    obtain ⟨rfl, N1463, e1464⟩ := hQ1458
    have N1466 := Fr.app N1449 N1463
    have k1467 : own_G p e below E0 T1452 (mkF m 77 #[vi p0, vi p1, vi p2, vi p3, vi (1 : Int32), vr a1367, vr r1421, vj (p1.toInt64), ss, vj (p2.toInt64), ss] [(.int (1 : Int32))]) := fun tQ kk => k1451 tQ (st1462 _ kk)
    clear k1451 st1462
    have k1468 : own_G p e below E0 T1452 (mkF m 89 #[vi p0, vi p1, vi p2, vi p3, vi (1 : Int32), vr a1367, vr r1421, vj (p1.toInt64), ss, vj (p2.toInt64), ss] [(.long (p2.toInt64)), (.long (p1.toInt64)), (.int (1 : Int32)), (.int (2 : Int32)), (.ref r1421)]) := by
      intro tQ kk
      refine k1467 tQ ?_
      refine XS.ifNo X1456.here hx rfl (hb hby at_77) rfl (own_if_eqN (by decide)) ?_
      refine XS.aload X1456.here hx rfl (hb hby at_80) rfl rfl ?_
      refine XS.iconst X1456.here hx rfl (hb hby at_82) ?_
      refine XS.iload X1456.here hx rfl (hb hby at_83) rfl ?_
      show Steps p.tables e below (T1452.setTop (mkF m 85 #[vi p0, vi p1, vi p2, vi p3, vi (1 : Int32), vr a1367, vr r1421, vj (p1.toInt64), ss, vj (p2.toInt64), ss] [(.int (1 : Int32)), (.int (2 : Int32)), (.ref r1421)])) tQ
      refine XT.lload X1456.here hx rfl (hb hby at_85) rfl ?_
      refine XT.lload X1456.here hx rfl (hb hby at_87) rfl ?_
      exact kk
    clear k1467
    obtain ⟨_, _, ⟨T1469, L1470, kc1471, nc1472⟩, -, X1473, ⟨Lc1474, hQ1475, l1476, y1477, z1478⟩, st1479⟩ := Jvm.LawKit.callS X1456 hx (y := mn13) hown (mvT hZ (tw39 hw)) (mvT hZ (tw40 hw)) (mvT hZ (tw41 hw)) (mvT hZ (tw42 hw)) (by decide) (backOf (W := 0) (rmT l Z a0 hw [] r1421 (2 : Int32) (1 : Int32) (p1.toInt64) (p2.toInt64) ([(.double (FP.dadd (FP.i2d p1) (FP.dmul (FP.i2d (0 : Int32)) (FP.i2d p2))))]) 0 0 T1402.heap n0 Z1425 g1423 (fun z => absurd z (by decide))) hZ (tw42 hw) (tw41 hw) (by decide) (by decide)) (g := (mkF m 89 #[vi p0, vi p1, vi p2, vi p3, vi (1 : Int32), vr a1367, vr r1421, vj (p1.toInt64), ss, vj (p2.toInt64), ss] [(.long (p2.toInt64)), (.long (p1.toInt64)), (.int (1 : Int32)), (.int (2 : Int32)), (.ref r1421)])) rfl (by rw [hml]; rfl) (argsL := [(.ref r1421), (.int (2 : Int32)), (.int (1 : Int32)), (.long (p1.toInt64)), (.long (p2.toInt64))]) (rest := []) (lenOf pd_16 rfl) rfl (by show 2 * 0 + _ ≤ _; exact Nat.le_of_eq rfl) (hb hby at_89) (fun _ _ => ⟨rfl, e1464, (by decide : 2 + 0 ≤ _), (by decide : 4 + 0 ≤ _)⟩)
    dsimp only [Pt.U, Pt.locs, Pt.cells, Pt.slots] at X1473 l1476 y1477 z1478 st1479 hQ1475
    subst l1476 y1477 z1478
    obtain ⟨rfl, N1480, e1481⟩ := hQ1475
    have N1483 := Fr.app N1466 N1480
    have k1484 : own_G p e below E0 T1469 (mkF m 92 #[vi p0, vi p1, vi p2, vi p3, vi (1 : Int32), vr a1367, vr r1421, vj (p1.toInt64), ss, vj (p2.toInt64), ss] [(.int (1 : Int32))]) := fun tQ kk => k1468 tQ (st1479 _ kk)
    clear k1468 st1479
    have k1485 : own_G p e below E0 T1469 (mkF m 104 #[vi p0, vi p1, vi p2, vi p3, vi (1 : Int32), vr a1367, vr r1421, vj (p1.toInt64), ss, vj (p2.toInt64), ss] [(.long (p2.toInt64)), (.long (p1.toInt64)), (.int (1 : Int32)), (.int (3 : Int32)), (.ref r1421)]) := by
      intro tQ kk
      refine k1484 tQ ?_
      refine XS.ifNo X1473.here hx rfl (hb hby at_92) rfl (own_if_eqN (by decide)) ?_
      refine XS.aload X1473.here hx rfl (hb hby at_95) rfl rfl ?_
      refine XS.iconst X1473.here hx rfl (hb hby at_97) ?_
      refine XS.iload X1473.here hx rfl (hb hby at_98) rfl ?_
      show Steps p.tables e below (T1469.setTop (mkF m 100 #[vi p0, vi p1, vi p2, vi p3, vi (1 : Int32), vr a1367, vr r1421, vj (p1.toInt64), ss, vj (p2.toInt64), ss] [(.int (1 : Int32)), (.int (3 : Int32)), (.ref r1421)])) tQ
      refine XT.lload X1473.here hx rfl (hb hby at_100) rfl ?_
      refine XT.lload X1473.here hx rfl (hb hby at_102) rfl ?_
      exact kk
    clear k1484
    obtain ⟨_, _, ⟨T1486, L1487, kc1488, nc1489⟩, -, X1490, ⟨Lc1491, hQ1492, l1493, y1494, z1495⟩, st1496⟩ := Jvm.LawKit.callS X1473 hx (y := mn13) hown (mvT hZ (tw39 hw)) (mvT hZ (tw40 hw)) (mvT hZ (tw41 hw)) (mvT hZ (tw42 hw)) (by decide) (backOf (W := 0) (rmT l Z a0 hw [] r1421 (3 : Int32) (1 : Int32) (p1.toInt64) (p2.toInt64) ([(.double (FP.dadd (FP.i2d p1) (FP.dmul (FP.i2d (0 : Int32)) (FP.i2d p2))))]) 0 0 T1402.heap n0 Z1425 g1423 (fun z => absurd z (by decide))) hZ (tw42 hw) (tw41 hw) (by decide) (by decide)) (g := (mkF m 104 #[vi p0, vi p1, vi p2, vi p3, vi (1 : Int32), vr a1367, vr r1421, vj (p1.toInt64), ss, vj (p2.toInt64), ss] [(.long (p2.toInt64)), (.long (p1.toInt64)), (.int (1 : Int32)), (.int (3 : Int32)), (.ref r1421)])) rfl (by rw [hml]; rfl) (argsL := [(.ref r1421), (.int (3 : Int32)), (.int (1 : Int32)), (.long (p1.toInt64)), (.long (p2.toInt64))]) (rest := []) (lenOf pd_16 rfl) rfl (by show 2 * 0 + _ ≤ _; exact Nat.le_of_eq rfl) (hb hby at_104) (fun _ _ => ⟨rfl, e1481, (by decide : 2 + 0 ≤ _), (by decide : 4 + 0 ≤ _)⟩)
    dsimp only [Pt.U, Pt.locs, Pt.cells, Pt.slots] at X1490 l1493 y1494 z1495 st1496 hQ1492
    subst l1493 y1494 z1495
    obtain ⟨rfl, N1497, e1498⟩ := hQ1492
    have N1500 := Fr.app N1483 N1497
    have k1501 : own_G p e below E0 T1486 (mkF m 107 #[vi p0, vi p1, vi p2, vi p3, vi (1 : Int32), vr a1367, vr r1421, vj (p1.toInt64), ss, vj (p2.toInt64), ss] [(.int (1 : Int32))]) := fun tQ kk => k1485 tQ (st1496 _ kk)
    clear k1485 st1496
    have k1502 : own_G p e below E0 T1486 (mkF m 119 #[vi p0, vi p1, vi p2, vi p3, vi (1 : Int32), vr a1367, vr r1421, vj (p1.toInt64), ss, vj (p2.toInt64), ss] [(.long (p2.toInt64)), (.long (p1.toInt64)), (.int (1 : Int32)), (.int (4 : Int32)), (.ref r1421)]) := by
      intro tQ kk
      refine k1501 tQ ?_
      refine XS.ifNo X1490.here hx rfl (hb hby at_107) rfl (own_if_eqN (by decide)) ?_
      refine XS.aload X1490.here hx rfl (hb hby at_110) rfl rfl ?_
      refine XS.iconst X1490.here hx rfl (hb hby at_112) ?_
      refine XS.iload X1490.here hx rfl (hb hby at_113) rfl ?_
      show Steps p.tables e below (T1486.setTop (mkF m 115 #[vi p0, vi p1, vi p2, vi p3, vi (1 : Int32), vr a1367, vr r1421, vj (p1.toInt64), ss, vj (p2.toInt64), ss] [(.int (1 : Int32)), (.int (4 : Int32)), (.ref r1421)])) tQ
      refine XT.lload X1490.here hx rfl (hb hby at_115) rfl ?_
      refine XT.lload X1490.here hx rfl (hb hby at_117) rfl ?_
      exact kk
    clear k1501
    obtain ⟨_, _, ⟨T1503, L1504, kc1505, nc1506⟩, -, X1507, ⟨Lc1508, hQ1509, l1510, y1511, z1512⟩, st1513⟩ := Jvm.LawKit.callS X1490 hx (y := mn13) hown (mvT hZ (tw39 hw)) (mvT hZ (tw40 hw)) (mvT hZ (tw41 hw)) (mvT hZ (tw42 hw)) (by decide) (backOf (W := 0) (rmT l Z a0 hw [] r1421 (4 : Int32) (1 : Int32) (p1.toInt64) (p2.toInt64) ([(.double (FP.dadd (FP.i2d p1) (FP.dmul (FP.i2d (0 : Int32)) (FP.i2d p2))))]) 0 0 T1402.heap n0 Z1425 g1423 (fun z => absurd z (by decide))) hZ (tw42 hw) (tw41 hw) (by decide) (by decide)) (g := (mkF m 119 #[vi p0, vi p1, vi p2, vi p3, vi (1 : Int32), vr a1367, vr r1421, vj (p1.toInt64), ss, vj (p2.toInt64), ss] [(.long (p2.toInt64)), (.long (p1.toInt64)), (.int (1 : Int32)), (.int (4 : Int32)), (.ref r1421)])) rfl (by rw [hml]; rfl) (argsL := [(.ref r1421), (.int (4 : Int32)), (.int (1 : Int32)), (.long (p1.toInt64)), (.long (p2.toInt64))]) (rest := []) (lenOf pd_16 rfl) rfl (by show 2 * 0 + _ ≤ _; exact Nat.le_of_eq rfl) (hb hby at_119) (fun _ _ => ⟨rfl, e1498, (by decide : 2 + 0 ≤ _), (by decide : 4 + 0 ≤ _)⟩)
    dsimp only [Pt.U, Pt.locs, Pt.cells, Pt.slots] at X1507 l1510 y1511 z1512 st1513 hQ1509
    subst l1510 y1511 z1512
    obtain ⟨rfl, N1514, e1515⟩ := hQ1509
    have N1517 := Fr.app N1500 N1514
    have k1518 : own_G p e below E0 T1503 (mkF m 122 #[vi p0, vi p1, vi p2, vi p3, vi (1 : Int32), vr a1367, vr r1421, vj (p1.toInt64), ss, vj (p2.toInt64), ss] [(.int (1 : Int32))]) := fun tQ kk => k1502 tQ (st1513 _ kk)
    clear k1502 st1513
    have k1519 : own_G p e below E0 T1503 (mkF m 134 #[vi p0, vi p1, vi p2, vi p3, vi (1 : Int32), vr a1367, vr r1421, vj (p1.toInt64), ss, vj (p2.toInt64), ss] [(.long (p2.toInt64)), (.long (p1.toInt64)), (.int (1 : Int32)), (.int (5 : Int32)), (.ref r1421)]) := by
      intro tQ kk
      refine k1518 tQ ?_
      refine XS.ifNo X1507.here hx rfl (hb hby at_122) rfl (own_if_eqN (by decide)) ?_
      refine XS.aload X1507.here hx rfl (hb hby at_125) rfl rfl ?_
      refine XS.iconst X1507.here hx rfl (hb hby at_127) ?_
      refine XS.iload X1507.here hx rfl (hb hby at_128) rfl ?_
      show Steps p.tables e below (T1503.setTop (mkF m 130 #[vi p0, vi p1, vi p2, vi p3, vi (1 : Int32), vr a1367, vr r1421, vj (p1.toInt64), ss, vj (p2.toInt64), ss] [(.int (1 : Int32)), (.int (5 : Int32)), (.ref r1421)])) tQ
      refine XT.lload X1507.here hx rfl (hb hby at_130) rfl ?_
      refine XT.lload X1507.here hx rfl (hb hby at_132) rfl ?_
      exact kk
    clear k1518
    obtain ⟨_, _, ⟨T1520, L1521, kc1522, nc1523⟩, -, X1524, ⟨Lc1525, hQ1526, l1527, y1528, z1529⟩, st1530⟩ := Jvm.LawKit.callS X1507 hx (y := mn13) hown (mvT hZ (tw39 hw)) (mvT hZ (tw40 hw)) (mvT hZ (tw41 hw)) (mvT hZ (tw42 hw)) (by decide) (backOf (W := 0) (rmT l Z a0 hw [] r1421 (5 : Int32) (1 : Int32) (p1.toInt64) (p2.toInt64) ([(.double (FP.dadd (FP.i2d p1) (FP.dmul (FP.i2d (0 : Int32)) (FP.i2d p2))))]) 0 0 T1402.heap n0 Z1425 g1423 (fun z => absurd z (by decide))) hZ (tw42 hw) (tw41 hw) (by decide) (by decide)) (g := (mkF m 134 #[vi p0, vi p1, vi p2, vi p3, vi (1 : Int32), vr a1367, vr r1421, vj (p1.toInt64), ss, vj (p2.toInt64), ss] [(.long (p2.toInt64)), (.long (p1.toInt64)), (.int (1 : Int32)), (.int (5 : Int32)), (.ref r1421)])) rfl (by rw [hml]; rfl) (argsL := [(.ref r1421), (.int (5 : Int32)), (.int (1 : Int32)), (.long (p1.toInt64)), (.long (p2.toInt64))]) (rest := []) (lenOf pd_16 rfl) rfl (by show 2 * 0 + _ ≤ _; exact Nat.le_of_eq rfl) (hb hby at_134) (fun _ _ => ⟨rfl, e1515, (by decide : 2 + 0 ≤ _), (by decide : 4 + 0 ≤ _)⟩)
    dsimp only [Pt.U, Pt.locs, Pt.cells, Pt.slots] at X1524 l1527 y1528 z1529 st1530 hQ1526
    subst l1527 y1528 z1529
    obtain ⟨rfl, N1531, e1532⟩ := hQ1526
    have N1534 := Fr.app N1517 N1531
    have k1535 : own_G p e below E0 T1520 (mkF m 137 #[vi p0, vi p1, vi p2, vi p3, vi (1 : Int32), vr a1367, vr r1421, vj (p1.toInt64), ss, vj (p2.toInt64), ss] [(.int (1 : Int32))]) := fun tQ kk => k1519 tQ (st1530 _ kk)
    clear k1519 st1530
    have k1536 : own_G p e below E0 T1520 (mkF m 150 #[vi p0, vi p1, vi p2, vi p3, vi (1 : Int32), vr a1367, vr r1421, vj (p1.toInt64), ss, vj (p2.toInt64), ss] [(.long (p2.toInt64)), (.long (p1.toInt64)), (.int (1 : Int32)), (.int (6 : Int32)), (.ref r1421)]) := by
      intro tQ kk
      refine k1535 tQ ?_
      refine XS.ifNo X1524.here hx rfl (hb hby at_137) rfl (own_if_eqN (by decide)) ?_
      refine XS.aload X1524.here hx rfl (hb hby at_140) rfl rfl ?_
      refine XS.bipush X1524.here hx rfl (hb hby at_142) ?_
      refine XS.iload X1524.here hx rfl (hb hby at_144) rfl ?_
      show Steps p.tables e below (T1520.setTop (mkF m 146 #[vi p0, vi p1, vi p2, vi p3, vi (1 : Int32), vr a1367, vr r1421, vj (p1.toInt64), ss, vj (p2.toInt64), ss] [(.int (1 : Int32)), (.int (6 : Int32)), (.ref r1421)])) tQ
      refine XT.lload X1524.here hx rfl (hb hby at_146) rfl ?_
      refine XT.lload X1524.here hx rfl (hb hby at_148) rfl ?_
      exact kk
    clear k1535
    obtain ⟨_, _, ⟨T1537, L1538, kc1539, nc1540⟩, -, X1541, ⟨Lc1542, hQ1543, l1544, y1545, z1546⟩, st1547⟩ := Jvm.LawKit.callS X1524 hx (y := mn13) hown (mvT hZ (tw39 hw)) (mvT hZ (tw40 hw)) (mvT hZ (tw41 hw)) (mvT hZ (tw42 hw)) (by decide) (backOf (W := 0) (rmT l Z a0 hw [] r1421 (6 : Int32) (1 : Int32) (p1.toInt64) (p2.toInt64) ([(.double (FP.dadd (FP.i2d p1) (FP.dmul (FP.i2d (0 : Int32)) (FP.i2d p2))))]) 0 0 T1402.heap n0 Z1425 g1423 (fun z => absurd z (by decide))) hZ (tw42 hw) (tw41 hw) (by decide) (by decide)) (g := (mkF m 150 #[vi p0, vi p1, vi p2, vi p3, vi (1 : Int32), vr a1367, vr r1421, vj (p1.toInt64), ss, vj (p2.toInt64), ss] [(.long (p2.toInt64)), (.long (p1.toInt64)), (.int (1 : Int32)), (.int (6 : Int32)), (.ref r1421)])) rfl (by rw [hml]; rfl) (argsL := [(.ref r1421), (.int (6 : Int32)), (.int (1 : Int32)), (.long (p1.toInt64)), (.long (p2.toInt64))]) (rest := []) (lenOf pd_16 rfl) rfl (by show 2 * 0 + _ ≤ _; exact Nat.le_of_eq rfl) (hb hby at_150) (fun _ _ => ⟨rfl, e1532, (by decide : 2 + 0 ≤ _), (by decide : 4 + 0 ≤ _)⟩)
    dsimp only [Pt.U, Pt.locs, Pt.cells, Pt.slots] at X1541 l1544 y1545 z1546 st1547 hQ1543
    subst l1544 y1545 z1546
    obtain ⟨rfl, N1548, e1549⟩ := hQ1543
    have N1551 := Fr.app N1534 N1548
    have k1552 : own_G p e below E0 T1537 (mkF m 153 #[vi p0, vi p1, vi p2, vi p3, vi (1 : Int32), vr a1367, vr r1421, vj (p1.toInt64), ss, vj (p2.toInt64), ss] [(.int (1 : Int32))]) := fun tQ kk => k1536 tQ (st1547 _ kk)
    clear k1536 st1547
    have k1553 : own_G p e below E0 T1537 (mkF m 166 #[vi p0, vi p1, vi p2, vi p3, vi (1 : Int32), vr a1367, vr r1421, vj (p1.toInt64), ss, vj (p2.toInt64), ss] [(.long (p2.toInt64)), (.long (p1.toInt64)), (.int (1 : Int32)), (.int (7 : Int32)), (.ref r1421)]) := by
      intro tQ kk
      refine k1552 tQ ?_
      refine XS.ifNo X1541.here hx rfl (hb hby at_153) rfl (own_if_eqN (by decide)) ?_
      refine XS.aload X1541.here hx rfl (hb hby at_156) rfl rfl ?_
      refine XS.bipush X1541.here hx rfl (hb hby at_158) ?_
      refine XS.iload X1541.here hx rfl (hb hby at_160) rfl ?_
      show Steps p.tables e below (T1537.setTop (mkF m 162 #[vi p0, vi p1, vi p2, vi p3, vi (1 : Int32), vr a1367, vr r1421, vj (p1.toInt64), ss, vj (p2.toInt64), ss] [(.int (1 : Int32)), (.int (7 : Int32)), (.ref r1421)])) tQ
      refine XT.lload X1541.here hx rfl (hb hby at_162) rfl ?_
      refine XT.lload X1541.here hx rfl (hb hby at_164) rfl ?_
      exact kk
    clear k1552
    obtain ⟨_, _, ⟨T1554, L1555, kc1556, nc1557⟩, -, X1558, ⟨Lc1559, hQ1560, l1561, y1562, z1563⟩, st1564⟩ := Jvm.LawKit.callS X1541 hx (y := mn13) hown (mvT hZ (tw39 hw)) (mvT hZ (tw40 hw)) (mvT hZ (tw41 hw)) (mvT hZ (tw42 hw)) (by decide) (backOf (W := 0) (rmT l Z a0 hw [] r1421 (7 : Int32) (1 : Int32) (p1.toInt64) (p2.toInt64) ([(.double (FP.dadd (FP.i2d p1) (FP.dmul (FP.i2d (0 : Int32)) (FP.i2d p2))))]) 0 0 T1402.heap n0 Z1425 g1423 (fun z => absurd z (by decide))) hZ (tw42 hw) (tw41 hw) (by decide) (by decide)) (g := (mkF m 166 #[vi p0, vi p1, vi p2, vi p3, vi (1 : Int32), vr a1367, vr r1421, vj (p1.toInt64), ss, vj (p2.toInt64), ss] [(.long (p2.toInt64)), (.long (p1.toInt64)), (.int (1 : Int32)), (.int (7 : Int32)), (.ref r1421)])) rfl (by rw [hml]; rfl) (argsL := [(.ref r1421), (.int (7 : Int32)), (.int (1 : Int32)), (.long (p1.toInt64)), (.long (p2.toInt64))]) (rest := []) (lenOf pd_16 rfl) rfl (by show 2 * 0 + _ ≤ _; exact Nat.le_of_eq rfl) (hb hby at_166) (fun _ _ => ⟨rfl, e1549, (by decide : 2 + 0 ≤ _), (by decide : 4 + 0 ≤ _)⟩)
    dsimp only [Pt.U, Pt.locs, Pt.cells, Pt.slots] at X1558 l1561 y1562 z1563 st1564 hQ1560
    subst l1561 y1562 z1563
    obtain ⟨rfl, N1565, e1566⟩ := hQ1560
    have N1568 := Fr.app N1551 N1565
    have k1569 : own_G p e below E0 T1554 (mkF m 169 #[vi p0, vi p1, vi p2, vi p3, vi (1 : Int32), vr a1367, vr r1421, vj (p1.toInt64), ss, vj (p2.toInt64), ss] [(.int (1 : Int32))]) := fun tQ kk => k1553 tQ (st1564 _ kk)
    clear k1553 st1564
    have k1570 : own_G p e below E0 T1554 (mkF m 177 #[vi p0, vi p1, vi p2, vi p3, vi (1 : Int32), vr a1367, vr r1421, vj (p1.toInt64), ss, vj (p2.toInt64), ss] [(.int (1 : Int32))]) := by
      intro tQ kk
      refine k1569 tQ ?_
      refine XS.ifNo X1558.here hx rfl (hb hby at_169) rfl (own_if_eqN (by decide)) ?_
      refine XS.iconst X1558.here hx rfl (hb hby at_172) ?_
      refine XS.goto X1558.here hx rfl (pc0 := 173) (pc' := 177) rfl (hb hby at_173) (by decide) (by decide) ?_
      exact kk
    clear k1569
    obtain ⟨fs, hr, hrun, hended, hW, hsame⟩ := X1558.leave (v := some (.int (1 : Int32))) (fun h => by rw [Bd.returns] at h; cases h)
    have hrun0 := k1570 _ (retOut X1558 hx Bd.returns (t := .boolean) rfl (Or.inl ⟨rfl, Or.inr (Or.inl rfl), _, rfl⟩) (hb hby at_177) hr)
    subst hE0
    refine ⟨_, _, hrun0, hrun, hended, _, _, rfl, ?_, ⟨_, rfl⟩, hW, hsame.mono (by decide) (by decide)⟩
    show Qrm0 Z p0 p1 p2 p3 h0 n0 _ T1554.heap _
    rw [e1566]
    exact ⟨rfl, N1568⟩
  · skip
    have k1571 : own_G p e below E0 s₁ (mkF m 8 #[vi p0, vi p1, vi p2, vi p3, vi (2 : Int32), uu, uu, uu, uu, uu, uu] []) := by
      intro tQ kk
      refine k1357 tQ ?_
      refine XS.istore X0.here hx rfl (hb hby at_6) rfl (l' := #[vi p0, vi p1, vi p2, vi p3, vi (2 : Int32), uu, uu, uu, uu, uu, uu]) rfl ?_
      exact kk
    clear k1357
    obtain ⟨T1572, h1573, X1574, e1575, E1576, A1577, D1578, -, st1579⟩ := newO X0 hx hZ hown (tw0 hw) (tw1 hw) (tw2 hw) e0 (g := (mkF m 8 #[vi p0, vi p1, vi p2, vi p3, vi (2 : Int32), uu, uu, uu, uu, uu, uu] [])) rfl (hb hby at_8) (by decide) (by decide)
    obtain ⟨a1580, g1581⟩ : ∃ zA : Nat, zA = h0.size := ⟨_, rfl⟩
    rw [← g1581] at A1577 D1578 st1579
    have ge1582 : n0 ≤ a1580 := own_ge_of Z0 g1581
    have Z1583 : n0 ≤ h1573.size := Nat.le_trans Z0 E1576.1
    have F1584 : Fld Z h1573 a1580 "com/example/capwright/capwright/premise/ConstantAmountChange" "yieldRate" "D" (.double (0 : UInt64)) := (D1578 (Or.inr (tw28 hw)) (ty := .double) (by decide))
    have F1585 : Fld Z h1573 a1580 "com/example/capwright/capwright/premise/ConstantAmountChange" "years" "I" (.int (0 : Int32)) := (D1578 (Or.inr (tw30 hw)) (ty := .int) (by decide))
    have F1586 : Fld Z h1573 a1580 "com/example/capwright/capwright/premise/ConstantAmountChange" "step" "D" (.double (0 : UInt64)) := (D1578 (Or.inr (tw32 hw)) (ty := .double) (by decide))
    have k1587 : own_G p e below E0 T1572 (mkF m 11 #[vi p0, vi p1, vi p2, vi p3, vi (2 : Int32), uu, uu, uu, uu, uu, uu] [(.ref a1580)]) := fun tQ kk => k1571 tQ (st1579 _ kk)
    clear k1571 st1579
    have k1588 : own_G p e below E0 T1572 (mkF m 18 #[vi p0, vi p1, vi p2, vi p3, vi (2 : Int32), uu, uu, uu, uu, uu, uu] [(.double (FP.i2d p2)), (.int (2 : Int32)), (.double (FP.i2d p3)), (.ref a1580), (.ref a1580)]) := by
      intro tQ kk
      refine k1587 tQ ?_
      refine XS.dup X1574.here hx rfl (hb hby at_11) rfl rfl ?_
      refine XS.iloadN X1574.here hx rfl (hb hby at_12) rfl ?_
      refine XS.i2dS X1574.here hx rfl (hb hby at_13) rfl rfl ?_
      refine XS.iload X1574.here hx rfl (hb hby at_14) rfl ?_
      show Steps p.tables e below (T1572.setTop (mkF m 16 #[vi p0, vi p1, vi p2, vi p3, vi (2 : Int32), uu, uu, uu, uu, uu, uu] [(.int (2 : Int32)), (.double (FP.i2d p3)), (.ref a1580), (.ref a1580)])) tQ
      refine XS.iloadN X1574.here hx rfl (hb hby at_16) rfl ?_
      refine XS.i2dS X1574.here hx rfl (hb hby at_17) rfl rfl ?_
      exact kk
    clear k1587
    obtain ⟨_, _, ⟨T1589, L1590, kc1591, nc1592⟩, -, X1593, ⟨Lc1594, hQ1595, l1596, y1597, z1598⟩, st1599⟩ := X1574.specialBack hx (y := mn8) rfl hown (mvT hZ (tw3 hw)) (mvT hZ (tw4 hw)) (mvT hZ (tw5 hw)) (by decide) (backOf (W := 1) (rmI l Z a0 hw [] a1580 (FP.i2d p3) (2 : Int32) (FP.i2d p2) h1573 n0 Z1583 A1577 F1584 F1585 F1586 ge1582 (by decide) (Fl.i2d_fin p2)) hZ (tw5 hw) (tw2 hw) (by decide) (by decide)) (g := (mkF m 18 #[vi p0, vi p1, vi p2, vi p3, vi (2 : Int32), uu, uu, uu, uu, uu, uu] [(.double (FP.i2d p2)), (.int (2 : Int32)), (.double (FP.i2d p3)), (.ref a1580), (.ref a1580)])) rfl (by rw [hml]; rfl) (Steps.refl _) (a := a1580) (argsL := [(.double (FP.i2d p3)), (.int (2 : Int32)), (.double (FP.i2d p2))]) (rest := [(.ref a1580)]) (lenOf pd_14 rfl) rfl (by show 2 * 0 + _ ≤ _; exact Nat.le_of_eq rfl) (hb hby at_18) (fun _ _ => ⟨rfl, e1575, (by decide : 1 + 0 ≤ _), (by decide : 3 + 0 ≤ _)⟩)
    dsimp only [Pt.U, Pt.locs, Pt.cells, Pt.slots] at X1593 l1596 y1597 z1598 st1599 hQ1595
    subst l1596 y1597 z1598
    obtain ⟨rfl, N1600, K1603, g1604, g1605, g1606⟩ := hQ1595
    have N1607 := Fr.app N0 N1600
    have Z1608 : n0 ≤ T1589.heap.size := Nat.le_trans Z1583 K1603.1
    have F1609 : xa7 Z T1589.heap a1580 := A1577.keep K1603
    clear A1577
    clear F1584
    clear F1585
    clear F1586
    have k1613 : own_G p e below E0 T1589 (mkF m 21 #[vi p0, vi p1, vi p2, vi p3, vi (2 : Int32), uu, uu, uu, uu, uu, uu] [(.ref a1580)]) := fun tQ kk => k1588 tQ (st1599.trans kk)
    clear k1588 st1599
    have k1614 : own_G p e below E0 T1589 (mkF m 27 #[vi p0, vi p1, vi p2, vi p3, vi (2 : Int32), vr a1580, uu, uu, uu, uu, uu] [(.double (FP.i2d p1)), (.ref a1580)]) := by
      intro tQ kk
      refine k1613 tQ ?_
      refine XS.astore X1593.here hx rfl (hb hby at_21) rfl rfl (l' := #[vi p0, vi p1, vi p2, vi p3, vi (2 : Int32), vr a1580, uu, uu, uu, uu, uu]) rfl ?_
      refine XS.aload X1593.here hx rfl (hb hby at_23) rfl rfl ?_
      refine XS.iloadN X1593.here hx rfl (hb hby at_25) rfl ?_
      refine XS.i2dS X1593.here hx rfl (hb hby at_26) rfl rfl ?_
      exact kk
    clear k1613
    obtain ⟨cq1626, kq1627, qa1628, qb1629, qc1630⟩ := isOf hZ rfl F1609
    obtain ⟨_, _, ⟨T1615, L1616, kc1617, nc1618⟩, -, X1619, ⟨Lc1620, hQ1621, l1622, y1623, z1624⟩, st1625⟩ := X1593.virtualBack hx (y := mn12) (z := mn12) hown (mvT hZ (tw33 hw)) (mvT hZ (tw34 hw)) (notFace_of_selects (args := #[]) (mvT hZ (tw36 hw))) (mvT hZ (tw36 hw)) (mvT hZ (tw35 hw)) (by decide) (backOf (W := 0) (rmV2 l Z a0 hw [] a1580 (FP.i2d p1) (FP.i2d p2) T1589.heap n0 Z1608 g1605 g1606 (own_nn8 p1 p2)) hZ (tw37 hw) (tw2 hw) (by decide) (by decide)) qa1628 qc1630 (g := (mkF m 27 #[vi p0, vi p1, vi p2, vi p3, vi (2 : Int32), vr a1580, uu, uu, uu, uu, uu] [(.double (FP.i2d p1)), (.ref a1580)])) rfl (by rw [hml]; rfl) (Steps.refl _) (argsL := [(.double (FP.i2d p1))]) (rest := []) (lenOf pd_15 rfl) rfl (by show 2 * 0 + _ ≤ _; exact Nat.le_of_eq rfl) (hb hby at_27) (fun _ _ => ⟨rfl, rfl, (by decide : 1 + 1 ≤ _), (by decide : 3 + 2 ≤ _)⟩)
    dsimp only [Pt.U, Pt.locs, Pt.cells, Pt.slots] at X1619 l1622 y1623 z1624 st1625 hQ1621
    subst l1622 y1623 z1624
    obtain ⟨r1634, rfl, N1631, K1635, g1636⟩ := hQ1621
    have N1637 := Fr.app N1607 N1631
    have Z1638 : n0 ≤ T1615.heap.size := Nat.le_trans Z1608 K1635.1
    have F1639 : xa7 Z T1615.heap a1580 := F1609.keep K1635
    clear F1609
    have F1640 : fd4 Z T1615.heap a1580 (.double (FP.i2d p3)) := g1604.keep K1635 nin0
    clear g1604
    have F1641 : fd5 Z T1615.heap a1580 (.int (2 : Int32)) := g1605.keep K1635 nin0
    clear g1605
    have F1642 : fd6 Z T1615.heap a1580 (.double (FP.i2d p2)) := g1606.keep K1635 nin0
    clear g1606
    have k1643 : own_G p e below E0 T1615 (mkF m 30 #[vi p0, vi p1, vi p2, vi p3, vi (2 : Int32), vr a1580, uu, uu, uu, uu, uu] [(.ref r1634)]) := fun tQ kk => k1614 tQ (st1625.trans kk)
    clear k1614 st1625
    have k1644 : own_G p e below E0 T1615 (mkF m 34 #[vi p0, vi p1, vi p2, vi p3, vi (2 : Int32), vr a1580, vr r1634, uu, uu, uu, uu] [(.ref r1634)]) := by
      intro tQ kk
      refine k1643 tQ ?_
      refine XS.astore X1619.here hx rfl (hb hby at_30) rfl rfl (l' := #[vi p0, vi p1, vi p2, vi p3, vi (2 : Int32), vr a1580, vr r1634, uu, uu, uu, uu]) rfl ?_
      refine XS.aload X1619.here hx rfl (hb hby at_32) rfl rfl ?_
      exact kk
    clear k1643
    have st1645 := fun tQ => own_A.len X1619 hx hZ rfl g1636 (g := (mkF m 34 #[vi p0, vi p1, vi p2, vi p3, vi (2 : Int32), vr a1580, vr r1634, uu, uu, uu, uu] [(.ref r1634)])) rfl rfl (hb hby at_34) tQ
    have k1646 : own_G p e below E0 T1615 (mkF m 35 #[vi p0, vi p1, vi p2, vi p3, vi (2 : Int32), vr a1580, vr r1634, uu, uu, uu, uu] [(.int (2 : Int32))]) := fun tQ kk => k1644 tQ (st1645 _ kk)
    clear k1644 st1645
    have k1647 : own_G p e below E0 T1615 (mkF m 59 #[vi p0, vi p1, vi p2, vi p3, vi (2 : Int32), vr a1580, vr r1634, vj (p1.toInt64), ss, vj (p2.toInt64), ss] [(.long (p2.toInt64)), (.long (p1.toInt64)), (.int (2 : Int32)), (.int (0 : Int32)), (.ref r1634)]) := by
      intro tQ kk
      refine k1646 tQ ?_
      refine XS.iload X1619.here hx rfl (hb hby at_35) rfl ?_
      refine XS.icmpYes X1619.here hx rfl (pc0 := 37) (pc' := 42) rfl (hb hby at_37) rfl (own_ic_eqY (by decide)) (by decide) (by decide) ?_
      refine XS.iloadN X1619.here hx rfl (hb hby at_42) rfl ?_
      refine XT.i2l X1619.here hx rfl (hb hby at_43) rfl ?_
      show Steps p.tables e below (T1615.setTop (mkF m 44 #[vi p0, vi p1, vi p2, vi p3, vi (2 : Int32), vr a1580, vr r1634, uu, uu, uu, uu] [(.long (p1.toInt64))])) tQ
      refine XT.lstore X1619.here hx rfl (hb hby at_44) rfl (l' := #[vi p0, vi p1, vi p2, vi p3, vi (2 : Int32), vr a1580, vr r1634, vj (p1.toInt64), ss, uu, uu]) rfl ?_
      refine XS.iloadN X1619.here hx rfl (hb hby at_46) rfl ?_
      refine XT.i2l X1619.here hx rfl (hb hby at_47) rfl ?_
      refine XT.lstore X1619.here hx rfl (hb hby at_48) rfl (l' := #[vi p0, vi p1, vi p2, vi p3, vi (2 : Int32), vr a1580, vr r1634, vj (p1.toInt64), ss, vj (p2.toInt64), ss]) rfl ?_
      show Steps p.tables e below (T1615.setTop (mkF m 50 #[vi p0, vi p1, vi p2, vi p3, vi (2 : Int32), vr a1580, vr r1634, vj (p1.toInt64), ss, vj (p2.toInt64), ss] [])) tQ
      refine XS.aload X1619.here hx rfl (hb hby at_50) rfl rfl ?_
      refine XS.iconst X1619.here hx rfl (hb hby at_52) ?_
      refine XS.iload X1619.here hx rfl (hb hby at_53) rfl ?_
      refine XT.lload X1619.here hx rfl (hb hby at_55) rfl ?_
      show Steps p.tables e below (T1615.setTop (mkF m 57 #[vi p0, vi p1, vi p2, vi p3, vi (2 : Int32), vr a1580, vr r1634, vj (p1.toInt64), ss, vj (p2.toInt64), ss] [(.long (p1.toInt64)), (.int (2 : Int32)), (.int (0 : Int32)), (.ref r1634)])) tQ
      refine XT.lload X1619.here hx rfl (hb hby at_57) rfl ?_
      exact kk
    clear k1646
    obtain ⟨_, _, ⟨T1648, L1649, kc1650, nc1651⟩, -, X1652, ⟨Lc1653, hQ1654, l1655, y1656, z1657⟩, st1658⟩ := Jvm.LawKit.callS X1619 hx (y := mn13) hown (mvT hZ (tw39 hw)) (mvT hZ (tw40 hw)) (mvT hZ (tw41 hw)) (mvT hZ (tw42 hw)) (by decide) (backOf (W := 0) (rmT l Z a0 hw [] r1634 (0 : Int32) (2 : Int32) (p1.toInt64) (p2.toInt64) ([(.double (FP.dadd (FP.i2d p1) (FP.dmul (FP.i2d (0 : Int32)) (FP.i2d p2)))), (.double (FP.dadd (FP.i2d p1) (FP.dmul (FP.i2d (1 : Int32)) (FP.i2d p2))))]) (FP.dadd (FP.i2d p1) (FP.dmul (FP.i2d (0 : Int32)) (FP.i2d p2))) (p1.toInt + 0 * p2.toInt) T1615.heap n0 Z1638 g1636 (fun _ => ⟨by decide, rfl, own_el p1 p2 (0 : Int32) 0 rfl (by decide) (by decide), own_le p1 p2 (0 : Int32) 0 rfl (by decide) (by decide)⟩)) hZ (tw42 hw) (tw41 hw) (by decide) (by decide)) (g := (mkF m 59 #[vi p0, vi p1, vi p2, vi p3, vi (2 : Int32), vr a1580, vr r1634, vj (p1.toInt64), ss, vj (p2.toInt64), ss] [(.long (p2.toInt64)), (.long (p1.toInt64)), (.int (2 : Int32)), (.int (0 : Int32)), (.ref r1634)])) rfl (by rw [hml]; rfl) (argsL := [(.ref r1634), (.int (0 : Int32)), (.int (2 : Int32)), (.long (p1.toInt64)), (.long (p2.toInt64))]) (rest := []) (lenOf pd_16 rfl) rfl (by show 2 * 0 + _ ≤ _; exact Nat.le_of_eq rfl) (hb hby at_59) (fun _ _ => ⟨rfl, rfl, (by decide : 2 + 0 ≤ _), (by decide : 5 + 0 ≤ _)⟩)
    dsimp only [Pt.U, Pt.locs, Pt.cells, Pt.slots] at X1652 l1655 y1656 z1657 st1658 hQ1654
    subst l1655 y1656 z1657
    obtain ⟨rfl, N1659, e1660⟩ := hQ1654
    have N1662 := Fr.app N1637 N1659
    have k1663 : own_G p e below E0 T1648 (mkF m 62 #[vi p0, vi p1, vi p2, vi p3, vi (2 : Int32), vr a1580, vr r1634, vj (p1.toInt64), ss, vj (p2.toInt64), ss] [(.int (1 : Int32))]) := fun tQ kk => k1647 tQ (st1658 _ kk)
    clear k1647 st1658
    have k1664 : own_G p e below E0 T1648 (mkF m 74 #[vi p0, vi p1, vi p2, vi p3, vi (2 : Int32), vr a1580, vr r1634, vj (p1.toInt64), ss, vj (p2.toInt64), ss] [(.long (p2.toInt64)), (.long (p1.toInt64)), (.int (2 : Int32)), (.int (1 : Int32)), (.ref r1634)]) := by
      intro tQ kk
      refine k1663 tQ ?_
      refine XS.ifNo X1652.here hx rfl (hb hby at_62) rfl (own_if_eqN (by decide)) ?_
      refine XS.aload X1652.here hx rfl (hb hby at_65) rfl rfl ?_
      refine XS.iconst X1652.here hx rfl (hb hby at_67) ?_
      refine XS.iload X1652.here hx rfl (hb hby at_68) rfl ?_
      show Steps p.tables e below (T1648.setTop (mkF m 70 #[vi p0, vi p1, vi p2, vi p3, vi (2 : Int32), vr a1580, vr r1634, vj (p1.toInt64), ss, vj (p2.toInt64), ss] [(.int (2 : Int32)), (.int (1 : Int32)), (.ref r1634)])) tQ
      refine XT.lload X1652.here hx rfl (hb hby at_70) rfl ?_
      refine XT.lload X1652.here hx rfl (hb hby at_72) rfl ?_
      exact kk
    clear k1663
    obtain ⟨_, _, ⟨T1665, L1666, kc1667, nc1668⟩, -, X1669, ⟨Lc1670, hQ1671, l1672, y1673, z1674⟩, st1675⟩ := Jvm.LawKit.callS X1652 hx (y := mn13) hown (mvT hZ (tw39 hw)) (mvT hZ (tw40 hw)) (mvT hZ (tw41 hw)) (mvT hZ (tw42 hw)) (by decide) (backOf (W := 0) (rmT l Z a0 hw [] r1634 (1 : Int32) (2 : Int32) (p1.toInt64) (p2.toInt64) ([(.double (FP.dadd (FP.i2d p1) (FP.dmul (FP.i2d (0 : Int32)) (FP.i2d p2)))), (.double (FP.dadd (FP.i2d p1) (FP.dmul (FP.i2d (1 : Int32)) (FP.i2d p2))))]) (FP.dadd (FP.i2d p1) (FP.dmul (FP.i2d (1 : Int32)) (FP.i2d p2))) (p1.toInt + 1 * p2.toInt) T1615.heap n0 Z1638 g1636 (fun _ => ⟨by decide, rfl, own_el p1 p2 (1 : Int32) 1 rfl (by decide) (by decide), own_le p1 p2 (1 : Int32) 1 rfl (by decide) (by decide)⟩)) hZ (tw42 hw) (tw41 hw) (by decide) (by decide)) (g := (mkF m 74 #[vi p0, vi p1, vi p2, vi p3, vi (2 : Int32), vr a1580, vr r1634, vj (p1.toInt64), ss, vj (p2.toInt64), ss] [(.long (p2.toInt64)), (.long (p1.toInt64)), (.int (2 : Int32)), (.int (1 : Int32)), (.ref r1634)])) rfl (by rw [hml]; rfl) (argsL := [(.ref r1634), (.int (1 : Int32)), (.int (2 : Int32)), (.long (p1.toInt64)), (.long (p2.toInt64))]) (rest := []) (lenOf pd_16 rfl) rfl (by show 2 * 0 + _ ≤ _; exact Nat.le_of_eq rfl) (hb hby at_74) (fun _ _ => ⟨rfl, e1660, (by decide : 2 + 0 ≤ _), (by decide : 5 + 0 ≤ _)⟩)
    dsimp only [Pt.U, Pt.locs, Pt.cells, Pt.slots] at X1669 l1672 y1673 z1674 st1675 hQ1671
    subst l1672 y1673 z1674
    obtain ⟨rfl, N1676, e1677⟩ := hQ1671
    have N1679 := Fr.app N1662 N1676
    have k1680 : own_G p e below E0 T1665 (mkF m 77 #[vi p0, vi p1, vi p2, vi p3, vi (2 : Int32), vr a1580, vr r1634, vj (p1.toInt64), ss, vj (p2.toInt64), ss] [(.int (1 : Int32))]) := fun tQ kk => k1664 tQ (st1675 _ kk)
    clear k1664 st1675
    have k1681 : own_G p e below E0 T1665 (mkF m 89 #[vi p0, vi p1, vi p2, vi p3, vi (2 : Int32), vr a1580, vr r1634, vj (p1.toInt64), ss, vj (p2.toInt64), ss] [(.long (p2.toInt64)), (.long (p1.toInt64)), (.int (2 : Int32)), (.int (2 : Int32)), (.ref r1634)]) := by
      intro tQ kk
      refine k1680 tQ ?_
      refine XS.ifNo X1669.here hx rfl (hb hby at_77) rfl (own_if_eqN (by decide)) ?_
      refine XS.aload X1669.here hx rfl (hb hby at_80) rfl rfl ?_
      refine XS.iconst X1669.here hx rfl (hb hby at_82) ?_
      refine XS.iload X1669.here hx rfl (hb hby at_83) rfl ?_
      show Steps p.tables e below (T1665.setTop (mkF m 85 #[vi p0, vi p1, vi p2, vi p3, vi (2 : Int32), vr a1580, vr r1634, vj (p1.toInt64), ss, vj (p2.toInt64), ss] [(.int (2 : Int32)), (.int (2 : Int32)), (.ref r1634)])) tQ
      refine XT.lload X1669.here hx rfl (hb hby at_85) rfl ?_
      refine XT.lload X1669.here hx rfl (hb hby at_87) rfl ?_
      exact kk
    clear k1680
    obtain ⟨_, _, ⟨T1682, L1683, kc1684, nc1685⟩, -, X1686, ⟨Lc1687, hQ1688, l1689, y1690, z1691⟩, st1692⟩ := Jvm.LawKit.callS X1669 hx (y := mn13) hown (mvT hZ (tw39 hw)) (mvT hZ (tw40 hw)) (mvT hZ (tw41 hw)) (mvT hZ (tw42 hw)) (by decide) (backOf (W := 0) (rmT l Z a0 hw [] r1634 (2 : Int32) (2 : Int32) (p1.toInt64) (p2.toInt64) ([(.double (FP.dadd (FP.i2d p1) (FP.dmul (FP.i2d (0 : Int32)) (FP.i2d p2)))), (.double (FP.dadd (FP.i2d p1) (FP.dmul (FP.i2d (1 : Int32)) (FP.i2d p2))))]) 0 0 T1615.heap n0 Z1638 g1636 (fun z => absurd z (by decide))) hZ (tw42 hw) (tw41 hw) (by decide) (by decide)) (g := (mkF m 89 #[vi p0, vi p1, vi p2, vi p3, vi (2 : Int32), vr a1580, vr r1634, vj (p1.toInt64), ss, vj (p2.toInt64), ss] [(.long (p2.toInt64)), (.long (p1.toInt64)), (.int (2 : Int32)), (.int (2 : Int32)), (.ref r1634)])) rfl (by rw [hml]; rfl) (argsL := [(.ref r1634), (.int (2 : Int32)), (.int (2 : Int32)), (.long (p1.toInt64)), (.long (p2.toInt64))]) (rest := []) (lenOf pd_16 rfl) rfl (by show 2 * 0 + _ ≤ _; exact Nat.le_of_eq rfl) (hb hby at_89) (fun _ _ => ⟨rfl, e1677, (by decide : 2 + 0 ≤ _), (by decide : 5 + 0 ≤ _)⟩)
    dsimp only [Pt.U, Pt.locs, Pt.cells, Pt.slots] at X1686 l1689 y1690 z1691 st1692 hQ1688
    subst l1689 y1690 z1691
    obtain ⟨rfl, N1693, e1694⟩ := hQ1688
    have N1696 := Fr.app N1679 N1693
    have k1697 : own_G p e below E0 T1682 (mkF m 92 #[vi p0, vi p1, vi p2, vi p3, vi (2 : Int32), vr a1580, vr r1634, vj (p1.toInt64), ss, vj (p2.toInt64), ss] [(.int (1 : Int32))]) := fun tQ kk => k1681 tQ (st1692 _ kk)
    clear k1681 st1692
    have k1698 : own_G p e below E0 T1682 (mkF m 104 #[vi p0, vi p1, vi p2, vi p3, vi (2 : Int32), vr a1580, vr r1634, vj (p1.toInt64), ss, vj (p2.toInt64), ss] [(.long (p2.toInt64)), (.long (p1.toInt64)), (.int (2 : Int32)), (.int (3 : Int32)), (.ref r1634)]) := by
      intro tQ kk
      refine k1697 tQ ?_
      refine XS.ifNo X1686.here hx rfl (hb hby at_92) rfl (own_if_eqN (by decide)) ?_
      refine XS.aload X1686.here hx rfl (hb hby at_95) rfl rfl ?_
      refine XS.iconst X1686.here hx rfl (hb hby at_97) ?_
      refine XS.iload X1686.here hx rfl (hb hby at_98) rfl ?_
      show Steps p.tables e below (T1682.setTop (mkF m 100 #[vi p0, vi p1, vi p2, vi p3, vi (2 : Int32), vr a1580, vr r1634, vj (p1.toInt64), ss, vj (p2.toInt64), ss] [(.int (2 : Int32)), (.int (3 : Int32)), (.ref r1634)])) tQ
      refine XT.lload X1686.here hx rfl (hb hby at_100) rfl ?_
      refine XT.lload X1686.here hx rfl (hb hby at_102) rfl ?_
      exact kk
    clear k1697
    obtain ⟨_, _, ⟨T1699, L1700, kc1701, nc1702⟩, -, X1703, ⟨Lc1704, hQ1705, l1706, y1707, z1708⟩, st1709⟩ := Jvm.LawKit.callS X1686 hx (y := mn13) hown (mvT hZ (tw39 hw)) (mvT hZ (tw40 hw)) (mvT hZ (tw41 hw)) (mvT hZ (tw42 hw)) (by decide) (backOf (W := 0) (rmT l Z a0 hw [] r1634 (3 : Int32) (2 : Int32) (p1.toInt64) (p2.toInt64) ([(.double (FP.dadd (FP.i2d p1) (FP.dmul (FP.i2d (0 : Int32)) (FP.i2d p2)))), (.double (FP.dadd (FP.i2d p1) (FP.dmul (FP.i2d (1 : Int32)) (FP.i2d p2))))]) 0 0 T1615.heap n0 Z1638 g1636 (fun z => absurd z (by decide))) hZ (tw42 hw) (tw41 hw) (by decide) (by decide)) (g := (mkF m 104 #[vi p0, vi p1, vi p2, vi p3, vi (2 : Int32), vr a1580, vr r1634, vj (p1.toInt64), ss, vj (p2.toInt64), ss] [(.long (p2.toInt64)), (.long (p1.toInt64)), (.int (2 : Int32)), (.int (3 : Int32)), (.ref r1634)])) rfl (by rw [hml]; rfl) (argsL := [(.ref r1634), (.int (3 : Int32)), (.int (2 : Int32)), (.long (p1.toInt64)), (.long (p2.toInt64))]) (rest := []) (lenOf pd_16 rfl) rfl (by show 2 * 0 + _ ≤ _; exact Nat.le_of_eq rfl) (hb hby at_104) (fun _ _ => ⟨rfl, e1694, (by decide : 2 + 0 ≤ _), (by decide : 5 + 0 ≤ _)⟩)
    dsimp only [Pt.U, Pt.locs, Pt.cells, Pt.slots] at X1703 l1706 y1707 z1708 st1709 hQ1705
    subst l1706 y1707 z1708
    obtain ⟨rfl, N1710, e1711⟩ := hQ1705
    have N1713 := Fr.app N1696 N1710
    have k1714 : own_G p e below E0 T1699 (mkF m 107 #[vi p0, vi p1, vi p2, vi p3, vi (2 : Int32), vr a1580, vr r1634, vj (p1.toInt64), ss, vj (p2.toInt64), ss] [(.int (1 : Int32))]) := fun tQ kk => k1698 tQ (st1709 _ kk)
    clear k1698 st1709
    have k1715 : own_G p e below E0 T1699 (mkF m 119 #[vi p0, vi p1, vi p2, vi p3, vi (2 : Int32), vr a1580, vr r1634, vj (p1.toInt64), ss, vj (p2.toInt64), ss] [(.long (p2.toInt64)), (.long (p1.toInt64)), (.int (2 : Int32)), (.int (4 : Int32)), (.ref r1634)]) := by
      intro tQ kk
      refine k1714 tQ ?_
      refine XS.ifNo X1703.here hx rfl (hb hby at_107) rfl (own_if_eqN (by decide)) ?_
      refine XS.aload X1703.here hx rfl (hb hby at_110) rfl rfl ?_
      refine XS.iconst X1703.here hx rfl (hb hby at_112) ?_
      refine XS.iload X1703.here hx rfl (hb hby at_113) rfl ?_
      show Steps p.tables e below (T1699.setTop (mkF m 115 #[vi p0, vi p1, vi p2, vi p3, vi (2 : Int32), vr a1580, vr r1634, vj (p1.toInt64), ss, vj (p2.toInt64), ss] [(.int (2 : Int32)), (.int (4 : Int32)), (.ref r1634)])) tQ
      refine XT.lload X1703.here hx rfl (hb hby at_115) rfl ?_
      refine XT.lload X1703.here hx rfl (hb hby at_117) rfl ?_
      exact kk
    clear k1714
    obtain ⟨_, _, ⟨T1716, L1717, kc1718, nc1719⟩, -, X1720, ⟨Lc1721, hQ1722, l1723, y1724, z1725⟩, st1726⟩ := Jvm.LawKit.callS X1703 hx (y := mn13) hown (mvT hZ (tw39 hw)) (mvT hZ (tw40 hw)) (mvT hZ (tw41 hw)) (mvT hZ (tw42 hw)) (by decide) (backOf (W := 0) (rmT l Z a0 hw [] r1634 (4 : Int32) (2 : Int32) (p1.toInt64) (p2.toInt64) ([(.double (FP.dadd (FP.i2d p1) (FP.dmul (FP.i2d (0 : Int32)) (FP.i2d p2)))), (.double (FP.dadd (FP.i2d p1) (FP.dmul (FP.i2d (1 : Int32)) (FP.i2d p2))))]) 0 0 T1615.heap n0 Z1638 g1636 (fun z => absurd z (by decide))) hZ (tw42 hw) (tw41 hw) (by decide) (by decide)) (g := (mkF m 119 #[vi p0, vi p1, vi p2, vi p3, vi (2 : Int32), vr a1580, vr r1634, vj (p1.toInt64), ss, vj (p2.toInt64), ss] [(.long (p2.toInt64)), (.long (p1.toInt64)), (.int (2 : Int32)), (.int (4 : Int32)), (.ref r1634)])) rfl (by rw [hml]; rfl) (argsL := [(.ref r1634), (.int (4 : Int32)), (.int (2 : Int32)), (.long (p1.toInt64)), (.long (p2.toInt64))]) (rest := []) (lenOf pd_16 rfl) rfl (by show 2 * 0 + _ ≤ _; exact Nat.le_of_eq rfl) (hb hby at_119) (fun _ _ => ⟨rfl, e1711, (by decide : 2 + 0 ≤ _), (by decide : 5 + 0 ≤ _)⟩)
    dsimp only [Pt.U, Pt.locs, Pt.cells, Pt.slots] at X1720 l1723 y1724 z1725 st1726 hQ1722
    subst l1723 y1724 z1725
    obtain ⟨rfl, N1727, e1728⟩ := hQ1722
    have N1730 := Fr.app N1713 N1727
    have k1731 : own_G p e below E0 T1716 (mkF m 122 #[vi p0, vi p1, vi p2, vi p3, vi (2 : Int32), vr a1580, vr r1634, vj (p1.toInt64), ss, vj (p2.toInt64), ss] [(.int (1 : Int32))]) := fun tQ kk => k1715 tQ (st1726 _ kk)
    clear k1715 st1726
    have k1732 : own_G p e below E0 T1716 (mkF m 134 #[vi p0, vi p1, vi p2, vi p3, vi (2 : Int32), vr a1580, vr r1634, vj (p1.toInt64), ss, vj (p2.toInt64), ss] [(.long (p2.toInt64)), (.long (p1.toInt64)), (.int (2 : Int32)), (.int (5 : Int32)), (.ref r1634)]) := by
      intro tQ kk
      refine k1731 tQ ?_
      refine XS.ifNo X1720.here hx rfl (hb hby at_122) rfl (own_if_eqN (by decide)) ?_
      refine XS.aload X1720.here hx rfl (hb hby at_125) rfl rfl ?_
      refine XS.iconst X1720.here hx rfl (hb hby at_127) ?_
      refine XS.iload X1720.here hx rfl (hb hby at_128) rfl ?_
      show Steps p.tables e below (T1716.setTop (mkF m 130 #[vi p0, vi p1, vi p2, vi p3, vi (2 : Int32), vr a1580, vr r1634, vj (p1.toInt64), ss, vj (p2.toInt64), ss] [(.int (2 : Int32)), (.int (5 : Int32)), (.ref r1634)])) tQ
      refine XT.lload X1720.here hx rfl (hb hby at_130) rfl ?_
      refine XT.lload X1720.here hx rfl (hb hby at_132) rfl ?_
      exact kk
    clear k1731
    obtain ⟨_, _, ⟨T1733, L1734, kc1735, nc1736⟩, -, X1737, ⟨Lc1738, hQ1739, l1740, y1741, z1742⟩, st1743⟩ := Jvm.LawKit.callS X1720 hx (y := mn13) hown (mvT hZ (tw39 hw)) (mvT hZ (tw40 hw)) (mvT hZ (tw41 hw)) (mvT hZ (tw42 hw)) (by decide) (backOf (W := 0) (rmT l Z a0 hw [] r1634 (5 : Int32) (2 : Int32) (p1.toInt64) (p2.toInt64) ([(.double (FP.dadd (FP.i2d p1) (FP.dmul (FP.i2d (0 : Int32)) (FP.i2d p2)))), (.double (FP.dadd (FP.i2d p1) (FP.dmul (FP.i2d (1 : Int32)) (FP.i2d p2))))]) 0 0 T1615.heap n0 Z1638 g1636 (fun z => absurd z (by decide))) hZ (tw42 hw) (tw41 hw) (by decide) (by decide)) (g := (mkF m 134 #[vi p0, vi p1, vi p2, vi p3, vi (2 : Int32), vr a1580, vr r1634, vj (p1.toInt64), ss, vj (p2.toInt64), ss] [(.long (p2.toInt64)), (.long (p1.toInt64)), (.int (2 : Int32)), (.int (5 : Int32)), (.ref r1634)])) rfl (by rw [hml]; rfl) (argsL := [(.ref r1634), (.int (5 : Int32)), (.int (2 : Int32)), (.long (p1.toInt64)), (.long (p2.toInt64))]) (rest := []) (lenOf pd_16 rfl) rfl (by show 2 * 0 + _ ≤ _; exact Nat.le_of_eq rfl) (hb hby at_134) (fun _ _ => ⟨rfl, e1728, (by decide : 2 + 0 ≤ _), (by decide : 5 + 0 ≤ _)⟩)
    dsimp only [Pt.U, Pt.locs, Pt.cells, Pt.slots] at X1737 l1740 y1741 z1742 st1743 hQ1739
    subst l1740 y1741 z1742
    obtain ⟨rfl, N1744, e1745⟩ := hQ1739
    have N1747 := Fr.app N1730 N1744
    have k1748 : own_G p e below E0 T1733 (mkF m 137 #[vi p0, vi p1, vi p2, vi p3, vi (2 : Int32), vr a1580, vr r1634, vj (p1.toInt64), ss, vj (p2.toInt64), ss] [(.int (1 : Int32))]) := fun tQ kk => k1732 tQ (st1743 _ kk)
    clear k1732 st1743
    have k1749 : own_G p e below E0 T1733 (mkF m 150 #[vi p0, vi p1, vi p2, vi p3, vi (2 : Int32), vr a1580, vr r1634, vj (p1.toInt64), ss, vj (p2.toInt64), ss] [(.long (p2.toInt64)), (.long (p1.toInt64)), (.int (2 : Int32)), (.int (6 : Int32)), (.ref r1634)]) := by
      intro tQ kk
      refine k1748 tQ ?_
      refine XS.ifNo X1737.here hx rfl (hb hby at_137) rfl (own_if_eqN (by decide)) ?_
      refine XS.aload X1737.here hx rfl (hb hby at_140) rfl rfl ?_
      refine XS.bipush X1737.here hx rfl (hb hby at_142) ?_
      refine XS.iload X1737.here hx rfl (hb hby at_144) rfl ?_
      show Steps p.tables e below (T1733.setTop (mkF m 146 #[vi p0, vi p1, vi p2, vi p3, vi (2 : Int32), vr a1580, vr r1634, vj (p1.toInt64), ss, vj (p2.toInt64), ss] [(.int (2 : Int32)), (.int (6 : Int32)), (.ref r1634)])) tQ
      refine XT.lload X1737.here hx rfl (hb hby at_146) rfl ?_
      refine XT.lload X1737.here hx rfl (hb hby at_148) rfl ?_
      exact kk
    clear k1748
    obtain ⟨_, _, ⟨T1750, L1751, kc1752, nc1753⟩, -, X1754, ⟨Lc1755, hQ1756, l1757, y1758, z1759⟩, st1760⟩ := Jvm.LawKit.callS X1737 hx (y := mn13) hown (mvT hZ (tw39 hw)) (mvT hZ (tw40 hw)) (mvT hZ (tw41 hw)) (mvT hZ (tw42 hw)) (by decide) (backOf (W := 0) (rmT l Z a0 hw [] r1634 (6 : Int32) (2 : Int32) (p1.toInt64) (p2.toInt64) ([(.double (FP.dadd (FP.i2d p1) (FP.dmul (FP.i2d (0 : Int32)) (FP.i2d p2)))), (.double (FP.dadd (FP.i2d p1) (FP.dmul (FP.i2d (1 : Int32)) (FP.i2d p2))))]) 0 0 T1615.heap n0 Z1638 g1636 (fun z => absurd z (by decide))) hZ (tw42 hw) (tw41 hw) (by decide) (by decide)) (g := (mkF m 150 #[vi p0, vi p1, vi p2, vi p3, vi (2 : Int32), vr a1580, vr r1634, vj (p1.toInt64), ss, vj (p2.toInt64), ss] [(.long (p2.toInt64)), (.long (p1.toInt64)), (.int (2 : Int32)), (.int (6 : Int32)), (.ref r1634)])) rfl (by rw [hml]; rfl) (argsL := [(.ref r1634), (.int (6 : Int32)), (.int (2 : Int32)), (.long (p1.toInt64)), (.long (p2.toInt64))]) (rest := []) (lenOf pd_16 rfl) rfl (by show 2 * 0 + _ ≤ _; exact Nat.le_of_eq rfl) (hb hby at_150) (fun _ _ => ⟨rfl, e1745, (by decide : 2 + 0 ≤ _), (by decide : 5 + 0 ≤ _)⟩)
    dsimp only [Pt.U, Pt.locs, Pt.cells, Pt.slots] at X1754 l1757 y1758 z1759 st1760 hQ1756
    subst l1757 y1758 z1759
    obtain ⟨rfl, N1761, e1762⟩ := hQ1756
    have N1764 := Fr.app N1747 N1761
    have k1765 : own_G p e below E0 T1750 (mkF m 153 #[vi p0, vi p1, vi p2, vi p3, vi (2 : Int32), vr a1580, vr r1634, vj (p1.toInt64), ss, vj (p2.toInt64), ss] [(.int (1 : Int32))]) := fun tQ kk => k1749 tQ (st1760 _ kk)
    clear k1749 st1760
    have k1766 : own_G p e below E0 T1750 (mkF m 166 #[vi p0, vi p1, vi p2, vi p3, vi (2 : Int32), vr a1580, vr r1634, vj (p1.toInt64), ss, vj (p2.toInt64), ss] [(.long (p2.toInt64)), (.long (p1.toInt64)), (.int (2 : Int32)), (.int (7 : Int32)), (.ref r1634)]) := by
      intro tQ kk
      refine k1765 tQ ?_
      refine XS.ifNo X1754.here hx rfl (hb hby at_153) rfl (own_if_eqN (by decide)) ?_
      refine XS.aload X1754.here hx rfl (hb hby at_156) rfl rfl ?_
      refine XS.bipush X1754.here hx rfl (hb hby at_158) ?_
      refine XS.iload X1754.here hx rfl (hb hby at_160) rfl ?_
      show Steps p.tables e below (T1750.setTop (mkF m 162 #[vi p0, vi p1, vi p2, vi p3, vi (2 : Int32), vr a1580, vr r1634, vj (p1.toInt64), ss, vj (p2.toInt64), ss] [(.int (2 : Int32)), (.int (7 : Int32)), (.ref r1634)])) tQ
      refine XT.lload X1754.here hx rfl (hb hby at_162) rfl ?_
      refine XT.lload X1754.here hx rfl (hb hby at_164) rfl ?_
      exact kk
    clear k1765
    obtain ⟨_, _, ⟨T1767, L1768, kc1769, nc1770⟩, -, X1771, ⟨Lc1772, hQ1773, l1774, y1775, z1776⟩, st1777⟩ := Jvm.LawKit.callS X1754 hx (y := mn13) hown (mvT hZ (tw39 hw)) (mvT hZ (tw40 hw)) (mvT hZ (tw41 hw)) (mvT hZ (tw42 hw)) (by decide) (backOf (W := 0) (rmT l Z a0 hw [] r1634 (7 : Int32) (2 : Int32) (p1.toInt64) (p2.toInt64) ([(.double (FP.dadd (FP.i2d p1) (FP.dmul (FP.i2d (0 : Int32)) (FP.i2d p2)))), (.double (FP.dadd (FP.i2d p1) (FP.dmul (FP.i2d (1 : Int32)) (FP.i2d p2))))]) 0 0 T1615.heap n0 Z1638 g1636 (fun z => absurd z (by decide))) hZ (tw42 hw) (tw41 hw) (by decide) (by decide)) (g := (mkF m 166 #[vi p0, vi p1, vi p2, vi p3, vi (2 : Int32), vr a1580, vr r1634, vj (p1.toInt64), ss, vj (p2.toInt64), ss] [(.long (p2.toInt64)), (.long (p1.toInt64)), (.int (2 : Int32)), (.int (7 : Int32)), (.ref r1634)])) rfl (by rw [hml]; rfl) (argsL := [(.ref r1634), (.int (7 : Int32)), (.int (2 : Int32)), (.long (p1.toInt64)), (.long (p2.toInt64))]) (rest := []) (lenOf pd_16 rfl) rfl (by show 2 * 0 + _ ≤ _; exact Nat.le_of_eq rfl) (hb hby at_166) (fun _ _ => ⟨rfl, e1762, (by decide : 2 + 0 ≤ _), (by decide : 5 + 0 ≤ _)⟩)
    dsimp only [Pt.U, Pt.locs, Pt.cells, Pt.slots] at X1771 l1774 y1775 z1776 st1777 hQ1773
    subst l1774 y1775 z1776
    obtain ⟨rfl, N1778, e1779⟩ := hQ1773
    have N1781 := Fr.app N1764 N1778
    have k1782 : own_G p e below E0 T1767 (mkF m 169 #[vi p0, vi p1, vi p2, vi p3, vi (2 : Int32), vr a1580, vr r1634, vj (p1.toInt64), ss, vj (p2.toInt64), ss] [(.int (1 : Int32))]) := fun tQ kk => k1766 tQ (st1777 _ kk)
    clear k1766 st1777
    have k1783 : own_G p e below E0 T1767 (mkF m 177 #[vi p0, vi p1, vi p2, vi p3, vi (2 : Int32), vr a1580, vr r1634, vj (p1.toInt64), ss, vj (p2.toInt64), ss] [(.int (1 : Int32))]) := by
      intro tQ kk
      refine k1782 tQ ?_
      refine XS.ifNo X1771.here hx rfl (hb hby at_169) rfl (own_if_eqN (by decide)) ?_
      refine XS.iconst X1771.here hx rfl (hb hby at_172) ?_
      refine XS.goto X1771.here hx rfl (pc0 := 173) (pc' := 177) rfl (hb hby at_173) (by decide) (by decide) ?_
      exact kk
    clear k1782
    obtain ⟨fs, hr, hrun, hended, hW, hsame⟩ := X1771.leave (v := some (.int (1 : Int32))) (fun h => by rw [Bd.returns] at h; cases h)
    have hrun0 := k1783 _ (retOut X1771 hx Bd.returns (t := .boolean) rfl (Or.inl ⟨rfl, Or.inr (Or.inl rfl), _, rfl⟩) (hb hby at_177) hr)
    subst hE0
    refine ⟨_, _, hrun0, hrun, hended, _, _, rfl, ?_, ⟨_, rfl⟩, hW, hsame.mono (by decide) (by decide)⟩
    show Qrm0 Z p0 p1 p2 p3 h0 n0 _ T1767.heap _
    rw [e1779]
    exact ⟨rfl, N1781⟩
  · skip
    have k1784 : own_G p e below E0 s₁ (mkF m 8 #[vi p0, vi p1, vi p2, vi p3, vi (3 : Int32), uu, uu, uu, uu, uu, uu] []) := by
      intro tQ kk
      refine k1357 tQ ?_
      refine XS.istore X0.here hx rfl (hb hby at_6) rfl (l' := #[vi p0, vi p1, vi p2, vi p3, vi (3 : Int32), uu, uu, uu, uu, uu, uu]) rfl ?_
      exact kk
    clear k1357
    obtain ⟨T1785, h1786, X1787, e1788, E1789, A1790, D1791, -, st1792⟩ := newO X0 hx hZ hown (tw0 hw) (tw1 hw) (tw2 hw) e0 (g := (mkF m 8 #[vi p0, vi p1, vi p2, vi p3, vi (3 : Int32), uu, uu, uu, uu, uu, uu] [])) rfl (hb hby at_8) (by decide) (by decide)
    obtain ⟨a1793, g1794⟩ : ∃ zA : Nat, zA = h0.size := ⟨_, rfl⟩
    rw [← g1794] at A1790 D1791 st1792
    have ge1795 : n0 ≤ a1793 := own_ge_of Z0 g1794
    have Z1796 : n0 ≤ h1786.size := Nat.le_trans Z0 E1789.1
    have F1797 : Fld Z h1786 a1793 "com/example/capwright/capwright/premise/ConstantAmountChange" "yieldRate" "D" (.double (0 : UInt64)) := (D1791 (Or.inr (tw28 hw)) (ty := .double) (by decide))
    have F1798 : Fld Z h1786 a1793 "com/example/capwright/capwright/premise/ConstantAmountChange" "years" "I" (.int (0 : Int32)) := (D1791 (Or.inr (tw30 hw)) (ty := .int) (by decide))
    have F1799 : Fld Z h1786 a1793 "com/example/capwright/capwright/premise/ConstantAmountChange" "step" "D" (.double (0 : UInt64)) := (D1791 (Or.inr (tw32 hw)) (ty := .double) (by decide))
    have k1800 : own_G p e below E0 T1785 (mkF m 11 #[vi p0, vi p1, vi p2, vi p3, vi (3 : Int32), uu, uu, uu, uu, uu, uu] [(.ref a1793)]) := fun tQ kk => k1784 tQ (st1792 _ kk)
    clear k1784 st1792
    have k1801 : own_G p e below E0 T1785 (mkF m 18 #[vi p0, vi p1, vi p2, vi p3, vi (3 : Int32), uu, uu, uu, uu, uu, uu] [(.double (FP.i2d p2)), (.int (3 : Int32)), (.double (FP.i2d p3)), (.ref a1793), (.ref a1793)]) := by
      intro tQ kk
      refine k1800 tQ ?_
      refine XS.dup X1787.here hx rfl (hb hby at_11) rfl rfl ?_
      refine XS.iloadN X1787.here hx rfl (hb hby at_12) rfl ?_
      refine XS.i2dS X1787.here hx rfl (hb hby at_13) rfl rfl ?_
      refine XS.iload X1787.here hx rfl (hb hby at_14) rfl ?_
      show Steps p.tables e below (T1785.setTop (mkF m 16 #[vi p0, vi p1, vi p2, vi p3, vi (3 : Int32), uu, uu, uu, uu, uu, uu] [(.int (3 : Int32)), (.double (FP.i2d p3)), (.ref a1793), (.ref a1793)])) tQ
      refine XS.iloadN X1787.here hx rfl (hb hby at_16) rfl ?_
      refine XS.i2dS X1787.here hx rfl (hb hby at_17) rfl rfl ?_
      exact kk
    clear k1800
    obtain ⟨_, _, ⟨T1802, L1803, kc1804, nc1805⟩, -, X1806, ⟨Lc1807, hQ1808, l1809, y1810, z1811⟩, st1812⟩ := X1787.specialBack hx (y := mn8) rfl hown (mvT hZ (tw3 hw)) (mvT hZ (tw4 hw)) (mvT hZ (tw5 hw)) (by decide) (backOf (W := 1) (rmI l Z a0 hw [] a1793 (FP.i2d p3) (3 : Int32) (FP.i2d p2) h1786 n0 Z1796 A1790 F1797 F1798 F1799 ge1795 (by decide) (Fl.i2d_fin p2)) hZ (tw5 hw) (tw2 hw) (by decide) (by decide)) (g := (mkF m 18 #[vi p0, vi p1, vi p2, vi p3, vi (3 : Int32), uu, uu, uu, uu, uu, uu] [(.double (FP.i2d p2)), (.int (3 : Int32)), (.double (FP.i2d p3)), (.ref a1793), (.ref a1793)])) rfl (by rw [hml]; rfl) (Steps.refl _) (a := a1793) (argsL := [(.double (FP.i2d p3)), (.int (3 : Int32)), (.double (FP.i2d p2))]) (rest := [(.ref a1793)]) (lenOf pd_14 rfl) rfl (by show 2 * 0 + _ ≤ _; exact Nat.le_of_eq rfl) (hb hby at_18) (fun _ _ => ⟨rfl, e1788, (by decide : 1 + 0 ≤ _), (by decide : 3 + 0 ≤ _)⟩)
    dsimp only [Pt.U, Pt.locs, Pt.cells, Pt.slots] at X1806 l1809 y1810 z1811 st1812 hQ1808
    subst l1809 y1810 z1811
    obtain ⟨rfl, N1813, K1816, g1817, g1818, g1819⟩ := hQ1808
    have N1820 := Fr.app N0 N1813
    have Z1821 : n0 ≤ T1802.heap.size := Nat.le_trans Z1796 K1816.1
    have F1822 : xa7 Z T1802.heap a1793 := A1790.keep K1816
    clear A1790
    clear F1797
    clear F1798
    clear F1799
    have k1826 : own_G p e below E0 T1802 (mkF m 21 #[vi p0, vi p1, vi p2, vi p3, vi (3 : Int32), uu, uu, uu, uu, uu, uu] [(.ref a1793)]) := fun tQ kk => k1801 tQ (st1812.trans kk)
    clear k1801 st1812
    have k1827 : own_G p e below E0 T1802 (mkF m 27 #[vi p0, vi p1, vi p2, vi p3, vi (3 : Int32), vr a1793, uu, uu, uu, uu, uu] [(.double (FP.i2d p1)), (.ref a1793)]) := by
      intro tQ kk
      refine k1826 tQ ?_
      refine XS.astore X1806.here hx rfl (hb hby at_21) rfl rfl (l' := #[vi p0, vi p1, vi p2, vi p3, vi (3 : Int32), vr a1793, uu, uu, uu, uu, uu]) rfl ?_
      refine XS.aload X1806.here hx rfl (hb hby at_23) rfl rfl ?_
      refine XS.iloadN X1806.here hx rfl (hb hby at_25) rfl ?_
      refine XS.i2dS X1806.here hx rfl (hb hby at_26) rfl rfl ?_
      exact kk
    clear k1826
    obtain ⟨cq1839, kq1840, qa1841, qb1842, qc1843⟩ := isOf hZ rfl F1822
    obtain ⟨_, _, ⟨T1828, L1829, kc1830, nc1831⟩, -, X1832, ⟨Lc1833, hQ1834, l1835, y1836, z1837⟩, st1838⟩ := X1806.virtualBack hx (y := mn12) (z := mn12) hown (mvT hZ (tw33 hw)) (mvT hZ (tw34 hw)) (notFace_of_selects (args := #[]) (mvT hZ (tw36 hw))) (mvT hZ (tw36 hw)) (mvT hZ (tw35 hw)) (by decide) (backOf (W := 0) (rmV3 l Z a0 hw [] a1793 (FP.i2d p1) (FP.i2d p2) T1802.heap n0 Z1821 g1818 g1819 (own_nn8 p1 p2)) hZ (tw37 hw) (tw2 hw) (by decide) (by decide)) qa1841 qc1843 (g := (mkF m 27 #[vi p0, vi p1, vi p2, vi p3, vi (3 : Int32), vr a1793, uu, uu, uu, uu, uu] [(.double (FP.i2d p1)), (.ref a1793)])) rfl (by rw [hml]; rfl) (Steps.refl _) (argsL := [(.double (FP.i2d p1))]) (rest := []) (lenOf pd_15 rfl) rfl (by show 2 * 0 + _ ≤ _; exact Nat.le_of_eq rfl) (hb hby at_27) (fun _ _ => ⟨rfl, rfl, (by decide : 1 + 1 ≤ _), (by decide : 3 + 3 ≤ _)⟩)
    dsimp only [Pt.U, Pt.locs, Pt.cells, Pt.slots] at X1832 l1835 y1836 z1837 st1838 hQ1834
    subst l1835 y1836 z1837
    obtain ⟨r1847, rfl, N1844, K1848, g1849⟩ := hQ1834
    have N1850 := Fr.app N1820 N1844
    have Z1851 : n0 ≤ T1828.heap.size := Nat.le_trans Z1821 K1848.1
    have F1852 : xa7 Z T1828.heap a1793 := F1822.keep K1848
    clear F1822
    have F1853 : fd4 Z T1828.heap a1793 (.double (FP.i2d p3)) := g1817.keep K1848 nin0
    clear g1817
    have F1854 : fd5 Z T1828.heap a1793 (.int (3 : Int32)) := g1818.keep K1848 nin0
    clear g1818
    have F1855 : fd6 Z T1828.heap a1793 (.double (FP.i2d p2)) := g1819.keep K1848 nin0
    clear g1819
    have k1856 : own_G p e below E0 T1828 (mkF m 30 #[vi p0, vi p1, vi p2, vi p3, vi (3 : Int32), vr a1793, uu, uu, uu, uu, uu] [(.ref r1847)]) := fun tQ kk => k1827 tQ (st1838.trans kk)
    clear k1827 st1838
    have k1857 : own_G p e below E0 T1828 (mkF m 34 #[vi p0, vi p1, vi p2, vi p3, vi (3 : Int32), vr a1793, vr r1847, uu, uu, uu, uu] [(.ref r1847)]) := by
      intro tQ kk
      refine k1856 tQ ?_
      refine XS.astore X1832.here hx rfl (hb hby at_30) rfl rfl (l' := #[vi p0, vi p1, vi p2, vi p3, vi (3 : Int32), vr a1793, vr r1847, uu, uu, uu, uu]) rfl ?_
      refine XS.aload X1832.here hx rfl (hb hby at_32) rfl rfl ?_
      exact kk
    clear k1856
    have st1858 := fun tQ => own_A.len X1832 hx hZ rfl g1849 (g := (mkF m 34 #[vi p0, vi p1, vi p2, vi p3, vi (3 : Int32), vr a1793, vr r1847, uu, uu, uu, uu] [(.ref r1847)])) rfl rfl (hb hby at_34) tQ
    have k1859 : own_G p e below E0 T1828 (mkF m 35 #[vi p0, vi p1, vi p2, vi p3, vi (3 : Int32), vr a1793, vr r1847, uu, uu, uu, uu] [(.int (3 : Int32))]) := fun tQ kk => k1857 tQ (st1858 _ kk)
    clear k1857 st1858
    have k1860 : own_G p e below E0 T1828 (mkF m 59 #[vi p0, vi p1, vi p2, vi p3, vi (3 : Int32), vr a1793, vr r1847, vj (p1.toInt64), ss, vj (p2.toInt64), ss] [(.long (p2.toInt64)), (.long (p1.toInt64)), (.int (3 : Int32)), (.int (0 : Int32)), (.ref r1847)]) := by
      intro tQ kk
      refine k1859 tQ ?_
      refine XS.iload X1832.here hx rfl (hb hby at_35) rfl ?_
      refine XS.icmpYes X1832.here hx rfl (pc0 := 37) (pc' := 42) rfl (hb hby at_37) rfl (own_ic_eqY (by decide)) (by decide) (by decide) ?_
      refine XS.iloadN X1832.here hx rfl (hb hby at_42) rfl ?_
      refine XT.i2l X1832.here hx rfl (hb hby at_43) rfl ?_
      show Steps p.tables e below (T1828.setTop (mkF m 44 #[vi p0, vi p1, vi p2, vi p3, vi (3 : Int32), vr a1793, vr r1847, uu, uu, uu, uu] [(.long (p1.toInt64))])) tQ
      refine XT.lstore X1832.here hx rfl (hb hby at_44) rfl (l' := #[vi p0, vi p1, vi p2, vi p3, vi (3 : Int32), vr a1793, vr r1847, vj (p1.toInt64), ss, uu, uu]) rfl ?_
      refine XS.iloadN X1832.here hx rfl (hb hby at_46) rfl ?_
      refine XT.i2l X1832.here hx rfl (hb hby at_47) rfl ?_
      refine XT.lstore X1832.here hx rfl (hb hby at_48) rfl (l' := #[vi p0, vi p1, vi p2, vi p3, vi (3 : Int32), vr a1793, vr r1847, vj (p1.toInt64), ss, vj (p2.toInt64), ss]) rfl ?_
      show Steps p.tables e below (T1828.setTop (mkF m 50 #[vi p0, vi p1, vi p2, vi p3, vi (3 : Int32), vr a1793, vr r1847, vj (p1.toInt64), ss, vj (p2.toInt64), ss] [])) tQ
      refine XS.aload X1832.here hx rfl (hb hby at_50) rfl rfl ?_
      refine XS.iconst X1832.here hx rfl (hb hby at_52) ?_
      refine XS.iload X1832.here hx rfl (hb hby at_53) rfl ?_
      refine XT.lload X1832.here hx rfl (hb hby at_55) rfl ?_
      show Steps p.tables e below (T1828.setTop (mkF m 57 #[vi p0, vi p1, vi p2, vi p3, vi (3 : Int32), vr a1793, vr r1847, vj (p1.toInt64), ss, vj (p2.toInt64), ss] [(.long (p1.toInt64)), (.int (3 : Int32)), (.int (0 : Int32)), (.ref r1847)])) tQ
      refine XT.lload X1832.here hx rfl (hb hby at_57) rfl ?_
      exact kk
    clear k1859
    obtain ⟨_, _, ⟨T1861, L1862, kc1863, nc1864⟩, -, X1865, ⟨Lc1866, hQ1867, l1868, y1869, z1870⟩, st1871⟩ := Jvm.LawKit.callS X1832 hx (y := mn13) hown (mvT hZ (tw39 hw)) (mvT hZ (tw40 hw)) (mvT hZ (tw41 hw)) (mvT hZ (tw42 hw)) (by decide) (backOf (W := 0) (rmT l Z a0 hw [] r1847 (0 : Int32) (3 : Int32) (p1.toInt64) (p2.toInt64) ([(.double (FP.dadd (FP.i2d p1) (FP.dmul (FP.i2d (0 : Int32)) (FP.i2d p2)))), (.double (FP.dadd (FP.i2d p1) (FP.dmul (FP.i2d (1 : Int32)) (FP.i2d p2)))), (.double (FP.dadd (FP.i2d p1) (FP.dmul (FP.i2d (2 : Int32)) (FP.i2d p2))))]) (FP.dadd (FP.i2d p1) (FP.dmul (FP.i2d (0 : Int32)) (FP.i2d p2))) (p1.toInt + 0 * p2.toInt) T1828.heap n0 Z1851 g1849 (fun _ => ⟨by decide, rfl, own_el p1 p2 (0 : Int32) 0 rfl (by decide) (by decide), own_le p1 p2 (0 : Int32) 0 rfl (by decide) (by decide)⟩)) hZ (tw42 hw) (tw41 hw) (by decide) (by decide)) (g := (mkF m 59 #[vi p0, vi p1, vi p2, vi p3, vi (3 : Int32), vr a1793, vr r1847, vj (p1.toInt64), ss, vj (p2.toInt64), ss] [(.long (p2.toInt64)), (.long (p1.toInt64)), (.int (3 : Int32)), (.int (0 : Int32)), (.ref r1847)])) rfl (by rw [hml]; rfl) (argsL := [(.ref r1847), (.int (0 : Int32)), (.int (3 : Int32)), (.long (p1.toInt64)), (.long (p2.toInt64))]) (rest := []) (lenOf pd_16 rfl) rfl (by show 2 * 0 + _ ≤ _; exact Nat.le_of_eq rfl) (hb hby at_59) (fun _ _ => ⟨rfl, rfl, (by decide : 2 + 0 ≤ _), (by decide : 6 + 0 ≤ _)⟩)
    dsimp only [Pt.U, Pt.locs, Pt.cells, Pt.slots] at X1865 l1868 y1869 z1870 st1871 hQ1867
    subst l1868 y1869 z1870
    obtain ⟨rfl, N1872, e1873⟩ := hQ1867
    have N1875 := Fr.app N1850 N1872
    have k1876 : own_G p e below E0 T1861 (mkF m 62 #[vi p0, vi p1, vi p2, vi p3, vi (3 : Int32), vr a1793, vr r1847, vj (p1.toInt64), ss, vj (p2.toInt64), ss] [(.int (1 : Int32))]) := fun tQ kk => k1860 tQ (st1871 _ kk)
    clear k1860 st1871
    have k1877 : own_G p e below E0 T1861 (mkF m 74 #[vi p0, vi p1, vi p2, vi p3, vi (3 : Int32), vr a1793, vr r1847, vj (p1.toInt64), ss, vj (p2.toInt64), ss] [(.long (p2.toInt64)), (.long (p1.toInt64)), (.int (3 : Int32)), (.int (1 : Int32)), (.ref r1847)]) := by
      intro tQ kk
      refine k1876 tQ ?_
      refine XS.ifNo X1865.here hx rfl (hb hby at_62) rfl (own_if_eqN (by decide)) ?_
      refine XS.aload X1865.here hx rfl (hb hby at_65) rfl rfl ?_
      refine XS.iconst X1865.here hx rfl (hb hby at_67) ?_
      refine XS.iload X1865.here hx rfl (hb hby at_68) rfl ?_
      show Steps p.tables e below (T1861.setTop (mkF m 70 #[vi p0, vi p1, vi p2, vi p3, vi (3 : Int32), vr a1793, vr r1847, vj (p1.toInt64), ss, vj (p2.toInt64), ss] [(.int (3 : Int32)), (.int (1 : Int32)), (.ref r1847)])) tQ
      refine XT.lload X1865.here hx rfl (hb hby at_70) rfl ?_
      refine XT.lload X1865.here hx rfl (hb hby at_72) rfl ?_
      exact kk
    clear k1876
    obtain ⟨_, _, ⟨T1878, L1879, kc1880, nc1881⟩, -, X1882, ⟨Lc1883, hQ1884, l1885, y1886, z1887⟩, st1888⟩ := Jvm.LawKit.callS X1865 hx (y := mn13) hown (mvT hZ (tw39 hw)) (mvT hZ (tw40 hw)) (mvT hZ (tw41 hw)) (mvT hZ (tw42 hw)) (by decide) (backOf (W := 0) (rmT l Z a0 hw [] r1847 (1 : Int32) (3 : Int32) (p1.toInt64) (p2.toInt64) ([(.double (FP.dadd (FP.i2d p1) (FP.dmul (FP.i2d (0 : Int32)) (FP.i2d p2)))), (.double (FP.dadd (FP.i2d p1) (FP.dmul (FP.i2d (1 : Int32)) (FP.i2d p2)))), (.double (FP.dadd (FP.i2d p1) (FP.dmul (FP.i2d (2 : Int32)) (FP.i2d p2))))]) (FP.dadd (FP.i2d p1) (FP.dmul (FP.i2d (1 : Int32)) (FP.i2d p2))) (p1.toInt + 1 * p2.toInt) T1828.heap n0 Z1851 g1849 (fun _ => ⟨by decide, rfl, own_el p1 p2 (1 : Int32) 1 rfl (by decide) (by decide), own_le p1 p2 (1 : Int32) 1 rfl (by decide) (by decide)⟩)) hZ (tw42 hw) (tw41 hw) (by decide) (by decide)) (g := (mkF m 74 #[vi p0, vi p1, vi p2, vi p3, vi (3 : Int32), vr a1793, vr r1847, vj (p1.toInt64), ss, vj (p2.toInt64), ss] [(.long (p2.toInt64)), (.long (p1.toInt64)), (.int (3 : Int32)), (.int (1 : Int32)), (.ref r1847)])) rfl (by rw [hml]; rfl) (argsL := [(.ref r1847), (.int (1 : Int32)), (.int (3 : Int32)), (.long (p1.toInt64)), (.long (p2.toInt64))]) (rest := []) (lenOf pd_16 rfl) rfl (by show 2 * 0 + _ ≤ _; exact Nat.le_of_eq rfl) (hb hby at_74) (fun _ _ => ⟨rfl, e1873, (by decide : 2 + 0 ≤ _), (by decide : 6 + 0 ≤ _)⟩)
    dsimp only [Pt.U, Pt.locs, Pt.cells, Pt.slots] at X1882 l1885 y1886 z1887 st1888 hQ1884
    subst l1885 y1886 z1887
    obtain ⟨rfl, N1889, e1890⟩ := hQ1884
    have N1892 := Fr.app N1875 N1889
    have k1893 : own_G p e below E0 T1878 (mkF m 77 #[vi p0, vi p1, vi p2, vi p3, vi (3 : Int32), vr a1793, vr r1847, vj (p1.toInt64), ss, vj (p2.toInt64), ss] [(.int (1 : Int32))]) := fun tQ kk => k1877 tQ (st1888 _ kk)
    clear k1877 st1888
    have k1894 : own_G p e below E0 T1878 (mkF m 89 #[vi p0, vi p1, vi p2, vi p3, vi (3 : Int32), vr a1793, vr r1847, vj (p1.toInt64), ss, vj (p2.toInt64), ss] [(.long (p2.toInt64)), (.long (p1.toInt64)), (.int (3 : Int32)), (.int (2 : Int32)), (.ref r1847)]) := by
      intro tQ kk
      refine k1893 tQ ?_
      refine XS.ifNo X1882.here hx rfl (hb hby at_77) rfl (own_if_eqN (by decide)) ?_
      refine XS.aload X1882.here hx rfl (hb hby at_80) rfl rfl ?_
      refine XS.iconst X1882.here hx rfl (hb hby at_82) ?_
      refine XS.iload X1882.here hx rfl (hb hby at_83) rfl ?_
      show Steps p.tables e below (T1878.setTop (mkF m 85 #[vi p0, vi p1, vi p2, vi p3, vi (3 : Int32), vr a1793, vr r1847, vj (p1.toInt64), ss, vj (p2.toInt64), ss] [(.int (3 : Int32)), (.int (2 : Int32)), (.ref r1847)])) tQ
      refine XT.lload X1882.here hx rfl (hb hby at_85) rfl ?_
      refine XT.lload X1882.here hx rfl (hb hby at_87) rfl ?_
      exact kk
    clear k1893
    obtain ⟨_, _, ⟨T1895, L1896, kc1897, nc1898⟩, -, X1899, ⟨Lc1900, hQ1901, l1902, y1903, z1904⟩, st1905⟩ := Jvm.LawKit.callS X1882 hx (y := mn13) hown (mvT hZ (tw39 hw)) (mvT hZ (tw40 hw)) (mvT hZ (tw41 hw)) (mvT hZ (tw42 hw)) (by decide) (backOf (W := 0) (rmT l Z a0 hw [] r1847 (2 : Int32) (3 : Int32) (p1.toInt64) (p2.toInt64) ([(.double (FP.dadd (FP.i2d p1) (FP.dmul (FP.i2d (0 : Int32)) (FP.i2d p2)))), (.double (FP.dadd (FP.i2d p1) (FP.dmul (FP.i2d (1 : Int32)) (FP.i2d p2)))), (.double (FP.dadd (FP.i2d p1) (FP.dmul (FP.i2d (2 : Int32)) (FP.i2d p2))))]) (FP.dadd (FP.i2d p1) (FP.dmul (FP.i2d (2 : Int32)) (FP.i2d p2))) (p1.toInt + 2 * p2.toInt) T1828.heap n0 Z1851 g1849 (fun _ => ⟨by decide, rfl, own_el p1 p2 (2 : Int32) 2 rfl (by decide) (by decide), own_le p1 p2 (2 : Int32) 2 rfl (by decide) (by decide)⟩)) hZ (tw42 hw) (tw41 hw) (by decide) (by decide)) (g := (mkF m 89 #[vi p0, vi p1, vi p2, vi p3, vi (3 : Int32), vr a1793, vr r1847, vj (p1.toInt64), ss, vj (p2.toInt64), ss] [(.long (p2.toInt64)), (.long (p1.toInt64)), (.int (3 : Int32)), (.int (2 : Int32)), (.ref r1847)])) rfl (by rw [hml]; rfl) (argsL := [(.ref r1847), (.int (2 : Int32)), (.int (3 : Int32)), (.long (p1.toInt64)), (.long (p2.toInt64))]) (rest := []) (lenOf pd_16 rfl) rfl (by show 2 * 0 + _ ≤ _; exact Nat.le_of_eq rfl) (hb hby at_89) (fun _ _ => ⟨rfl, e1890, (by decide : 2 + 0 ≤ _), (by decide : 6 + 0 ≤ _)⟩)
    dsimp only [Pt.U, Pt.locs, Pt.cells, Pt.slots] at X1899 l1902 y1903 z1904 st1905 hQ1901
    subst l1902 y1903 z1904
    obtain ⟨rfl, N1906, e1907⟩ := hQ1901
    have N1909 := Fr.app N1892 N1906
    have k1910 : own_G p e below E0 T1895 (mkF m 92 #[vi p0, vi p1, vi p2, vi p3, vi (3 : Int32), vr a1793, vr r1847, vj (p1.toInt64), ss, vj (p2.toInt64), ss] [(.int (1 : Int32))]) := fun tQ kk => k1894 tQ (st1905 _ kk)
    clear k1894 st1905
    have k1911 : own_G p e below E0 T1895 (mkF m 104 #[vi p0, vi p1, vi p2, vi p3, vi (3 : Int32), vr a1793, vr r1847, vj (p1.toInt64), ss, vj (p2.toInt64), ss] [(.long (p2.toInt64)), (.long (p1.toInt64)), (.int (3 : Int32)), (.int (3 : Int32)), (.ref r1847)]) := by
      intro tQ kk
      refine k1910 tQ ?_
      refine XS.ifNo X1899.here hx rfl (hb hby at_92) rfl (own_if_eqN (by decide)) ?_
      refine XS.aload X1899.here hx rfl (hb hby at_95) rfl rfl ?_
      refine XS.iconst X1899.here hx rfl (hb hby at_97) ?_
      refine XS.iload X1899.here hx rfl (hb hby at_98) rfl ?_
      show Steps p.tables e below (T1895.setTop (mkF m 100 #[vi p0, vi p1, vi p2, vi p3, vi (3 : Int32), vr a1793, vr r1847, vj (p1.toInt64), ss, vj (p2.toInt64), ss] [(.int (3 : Int32)), (.int (3 : Int32)), (.ref r1847)])) tQ
      refine XT.lload X1899.here hx rfl (hb hby at_100) rfl ?_
      refine XT.lload X1899.here hx rfl (hb hby at_102) rfl ?_
      exact kk
    clear k1910
    obtain ⟨_, _, ⟨T1912, L1913, kc1914, nc1915⟩, -, X1916, ⟨Lc1917, hQ1918, l1919, y1920, z1921⟩, st1922⟩ := Jvm.LawKit.callS X1899 hx (y := mn13) hown (mvT hZ (tw39 hw)) (mvT hZ (tw40 hw)) (mvT hZ (tw41 hw)) (mvT hZ (tw42 hw)) (by decide) (backOf (W := 0) (rmT l Z a0 hw [] r1847 (3 : Int32) (3 : Int32) (p1.toInt64) (p2.toInt64) ([(.double (FP.dadd (FP.i2d p1) (FP.dmul (FP.i2d (0 : Int32)) (FP.i2d p2)))), (.double (FP.dadd (FP.i2d p1) (FP.dmul (FP.i2d (1 : Int32)) (FP.i2d p2)))), (.double (FP.dadd (FP.i2d p1) (FP.dmul (FP.i2d (2 : Int32)) (FP.i2d p2))))]) 0 0 T1828.heap n0 Z1851 g1849 (fun z => absurd z (by decide))) hZ (tw42 hw) (tw41 hw) (by decide) (by decide)) (g := (mkF m 104 #[vi p0, vi p1, vi p2, vi p3, vi (3 : Int32), vr a1793, vr r1847, vj (p1.toInt64), ss, vj (p2.toInt64), ss] [(.long (p2.toInt64)), (.long (p1.toInt64)), (.int (3 : Int32)), (.int (3 : Int32)), (.ref r1847)])) rfl (by rw [hml]; rfl) (argsL := [(.ref r1847), (.int (3 : Int32)), (.int (3 : Int32)), (.long (p1.toInt64)), (.long (p2.toInt64))]) (rest := []) (lenOf pd_16 rfl) rfl (by show 2 * 0 + _ ≤ _; exact Nat.le_of_eq rfl) (hb hby at_104) (fun _ _ => ⟨rfl, e1907, (by decide : 2 + 0 ≤ _), (by decide : 6 + 0 ≤ _)⟩)
    dsimp only [Pt.U, Pt.locs, Pt.cells, Pt.slots] at X1916 l1919 y1920 z1921 st1922 hQ1918
    subst l1919 y1920 z1921
    obtain ⟨rfl, N1923, e1924⟩ := hQ1918
    have N1926 := Fr.app N1909 N1923
    have k1927 : own_G p e below E0 T1912 (mkF m 107 #[vi p0, vi p1, vi p2, vi p3, vi (3 : Int32), vr a1793, vr r1847, vj (p1.toInt64), ss, vj (p2.toInt64), ss] [(.int (1 : Int32))]) := fun tQ kk => k1911 tQ (st1922 _ kk)
    clear k1911 st1922
    have k1928 : own_G p e below E0 T1912 (mkF m 119 #[vi p0, vi p1, vi p2, vi p3, vi (3 : Int32), vr a1793, vr r1847, vj (p1.toInt64), ss, vj (p2.toInt64), ss] [(.long (p2.toInt64)), (.long (p1.toInt64)), (.int (3 : Int32)), (.int (4 : Int32)), (.ref r1847)]) := by
      intro tQ kk
      refine k1927 tQ ?_
      refine XS.ifNo X1916.here hx rfl (hb hby at_107) rfl (own_if_eqN (by decide)) ?_
      refine XS.aload X1916.here hx rfl (hb hby at_110) rfl rfl ?_
      refine XS.iconst X1916.here hx rfl (hb hby at_112) ?_
      refine XS.iload X1916.here hx rfl (hb hby at_113) rfl ?_
      show Steps p.tables e below (T1912.setTop (mkF m 115 #[vi p0, vi p1, vi p2, vi p3, vi (3 : Int32), vr a1793, vr r1847, vj (p1.toInt64), ss, vj (p2.toInt64), ss] [(.int (3 : Int32)), (.int (4 : Int32)), (.ref r1847)])) tQ
      refine XT.lload X1916.here hx rfl (hb hby at_115) rfl ?_
      refine XT.lload X1916.here hx rfl (hb hby at_117) rfl ?_
      exact kk
    clear k1927
    obtain ⟨_, _, ⟨T1929, L1930, kc1931, nc1932⟩, -, X1933, ⟨Lc1934, hQ1935, l1936, y1937, z1938⟩, st1939⟩ := Jvm.LawKit.callS X1916 hx (y := mn13) hown (mvT hZ (tw39 hw)) (mvT hZ (tw40 hw)) (mvT hZ (tw41 hw)) (mvT hZ (tw42 hw)) (by decide) (backOf (W := 0) (rmT l Z a0 hw [] r1847 (4 : Int32) (3 : Int32) (p1.toInt64) (p2.toInt64) ([(.double (FP.dadd (FP.i2d p1) (FP.dmul (FP.i2d (0 : Int32)) (FP.i2d p2)))), (.double (FP.dadd (FP.i2d p1) (FP.dmul (FP.i2d (1 : Int32)) (FP.i2d p2)))), (.double (FP.dadd (FP.i2d p1) (FP.dmul (FP.i2d (2 : Int32)) (FP.i2d p2))))]) 0 0 T1828.heap n0 Z1851 g1849 (fun z => absurd z (by decide))) hZ (tw42 hw) (tw41 hw) (by decide) (by decide)) (g := (mkF m 119 #[vi p0, vi p1, vi p2, vi p3, vi (3 : Int32), vr a1793, vr r1847, vj (p1.toInt64), ss, vj (p2.toInt64), ss] [(.long (p2.toInt64)), (.long (p1.toInt64)), (.int (3 : Int32)), (.int (4 : Int32)), (.ref r1847)])) rfl (by rw [hml]; rfl) (argsL := [(.ref r1847), (.int (4 : Int32)), (.int (3 : Int32)), (.long (p1.toInt64)), (.long (p2.toInt64))]) (rest := []) (lenOf pd_16 rfl) rfl (by show 2 * 0 + _ ≤ _; exact Nat.le_of_eq rfl) (hb hby at_119) (fun _ _ => ⟨rfl, e1924, (by decide : 2 + 0 ≤ _), (by decide : 6 + 0 ≤ _)⟩)
    dsimp only [Pt.U, Pt.locs, Pt.cells, Pt.slots] at X1933 l1936 y1937 z1938 st1939 hQ1935
    subst l1936 y1937 z1938
    obtain ⟨rfl, N1940, e1941⟩ := hQ1935
    have N1943 := Fr.app N1926 N1940
    have k1944 : own_G p e below E0 T1929 (mkF m 122 #[vi p0, vi p1, vi p2, vi p3, vi (3 : Int32), vr a1793, vr r1847, vj (p1.toInt64), ss, vj (p2.toInt64), ss] [(.int (1 : Int32))]) := fun tQ kk => k1928 tQ (st1939 _ kk)
    clear k1928 st1939
    have k1945 : own_G p e below E0 T1929 (mkF m 134 #[vi p0, vi p1, vi p2, vi p3, vi (3 : Int32), vr a1793, vr r1847, vj (p1.toInt64), ss, vj (p2.toInt64), ss] [(.long (p2.toInt64)), (.long (p1.toInt64)), (.int (3 : Int32)), (.int (5 : Int32)), (.ref r1847)]) := by
      intro tQ kk
      refine k1944 tQ ?_
      refine XS.ifNo X1933.here hx rfl (hb hby at_122) rfl (own_if_eqN (by decide)) ?_
      refine XS.aload X1933.here hx rfl (hb hby at_125) rfl rfl ?_
      refine XS.iconst X1933.here hx rfl (hb hby at_127) ?_
      refine XS.iload X1933.here hx rfl (hb hby at_128) rfl ?_
      show Steps p.tables e below (T1929.setTop (mkF m 130 #[vi p0, vi p1, vi p2, vi p3, vi (3 : Int32), vr a1793, vr r1847, vj (p1.toInt64), ss, vj (p2.toInt64), ss] [(.int (3 : Int32)), (.int (5 : Int32)), (.ref r1847)])) tQ
      refine XT.lload X1933.here hx rfl (hb hby at_130) rfl ?_
      refine XT.lload X1933.here hx rfl (hb hby at_132) rfl ?_
      exact kk
    clear k1944
    obtain ⟨_, _, ⟨T1946, L1947, kc1948, nc1949⟩, -, X1950, ⟨Lc1951, hQ1952, l1953, y1954, z1955⟩, st1956⟩ := Jvm.LawKit.callS X1933 hx (y := mn13) hown (mvT hZ (tw39 hw)) (mvT hZ (tw40 hw)) (mvT hZ (tw41 hw)) (mvT hZ (tw42 hw)) (by decide) (backOf (W := 0) (rmT l Z a0 hw [] r1847 (5 : Int32) (3 : Int32) (p1.toInt64) (p2.toInt64) ([(.double (FP.dadd (FP.i2d p1) (FP.dmul (FP.i2d (0 : Int32)) (FP.i2d p2)))), (.double (FP.dadd (FP.i2d p1) (FP.dmul (FP.i2d (1 : Int32)) (FP.i2d p2)))), (.double (FP.dadd (FP.i2d p1) (FP.dmul (FP.i2d (2 : Int32)) (FP.i2d p2))))]) 0 0 T1828.heap n0 Z1851 g1849 (fun z => absurd z (by decide))) hZ (tw42 hw) (tw41 hw) (by decide) (by decide)) (g := (mkF m 134 #[vi p0, vi p1, vi p2, vi p3, vi (3 : Int32), vr a1793, vr r1847, vj (p1.toInt64), ss, vj (p2.toInt64), ss] [(.long (p2.toInt64)), (.long (p1.toInt64)), (.int (3 : Int32)), (.int (5 : Int32)), (.ref r1847)])) rfl (by rw [hml]; rfl) (argsL := [(.ref r1847), (.int (5 : Int32)), (.int (3 : Int32)), (.long (p1.toInt64)), (.long (p2.toInt64))]) (rest := []) (lenOf pd_16 rfl) rfl (by show 2 * 0 + _ ≤ _; exact Nat.le_of_eq rfl) (hb hby at_134) (fun _ _ => ⟨rfl, e1941, (by decide : 2 + 0 ≤ _), (by decide : 6 + 0 ≤ _)⟩)
    dsimp only [Pt.U, Pt.locs, Pt.cells, Pt.slots] at X1950 l1953 y1954 z1955 st1956 hQ1952
    subst l1953 y1954 z1955
    obtain ⟨rfl, N1957, e1958⟩ := hQ1952
    have N1960 := Fr.app N1943 N1957
    have k1961 : own_G p e below E0 T1946 (mkF m 137 #[vi p0, vi p1, vi p2, vi p3, vi (3 : Int32), vr a1793, vr r1847, vj (p1.toInt64), ss, vj (p2.toInt64), ss] [(.int (1 : Int32))]) := fun tQ kk => k1945 tQ (st1956 _ kk)
    clear k1945 st1956
    have k1962 : own_G p e below E0 T1946 (mkF m 150 #[vi p0, vi p1, vi p2, vi p3, vi (3 : Int32), vr a1793, vr r1847, vj (p1.toInt64), ss, vj (p2.toInt64), ss] [(.long (p2.toInt64)), (.long (p1.toInt64)), (.int (3 : Int32)), (.int (6 : Int32)), (.ref r1847)]) := by
      intro tQ kk
      refine k1961 tQ ?_
      refine XS.ifNo X1950.here hx rfl (hb hby at_137) rfl (own_if_eqN (by decide)) ?_
      refine XS.aload X1950.here hx rfl (hb hby at_140) rfl rfl ?_
      refine XS.bipush X1950.here hx rfl (hb hby at_142) ?_
      refine XS.iload X1950.here hx rfl (hb hby at_144) rfl ?_
      show Steps p.tables e below (T1946.setTop (mkF m 146 #[vi p0, vi p1, vi p2, vi p3, vi (3 : Int32), vr a1793, vr r1847, vj (p1.toInt64), ss, vj (p2.toInt64), ss] [(.int (3 : Int32)), (.int (6 : Int32)), (.ref r1847)])) tQ
      refine XT.lload X1950.here hx rfl (hb hby at_146) rfl ?_
      refine XT.lload X1950.here hx rfl (hb hby at_148) rfl ?_
      exact kk
    clear k1961
    obtain ⟨_, _, ⟨T1963, L1964, kc1965, nc1966⟩, -, X1967, ⟨Lc1968, hQ1969, l1970, y1971, z1972⟩, st1973⟩ := Jvm.LawKit.callS X1950 hx (y := mn13) hown (mvT hZ (tw39 hw)) (mvT hZ (tw40 hw)) (mvT hZ (tw41 hw)) (mvT hZ (tw42 hw)) (by decide) (backOf (W := 0) (rmT l Z a0 hw [] r1847 (6 : Int32) (3 : Int32) (p1.toInt64) (p2.toInt64) ([(.double (FP.dadd (FP.i2d p1) (FP.dmul (FP.i2d (0 : Int32)) (FP.i2d p2)))), (.double (FP.dadd (FP.i2d p1) (FP.dmul (FP.i2d (1 : Int32)) (FP.i2d p2)))), (.double (FP.dadd (FP.i2d p1) (FP.dmul (FP.i2d (2 : Int32)) (FP.i2d p2))))]) 0 0 T1828.heap n0 Z1851 g1849 (fun z => absurd z (by decide))) hZ (tw42 hw) (tw41 hw) (by decide) (by decide)) (g := (mkF m 150 #[vi p0, vi p1, vi p2, vi p3, vi (3 : Int32), vr a1793, vr r1847, vj (p1.toInt64), ss, vj (p2.toInt64), ss] [(.long (p2.toInt64)), (.long (p1.toInt64)), (.int (3 : Int32)), (.int (6 : Int32)), (.ref r1847)])) rfl (by rw [hml]; rfl) (argsL := [(.ref r1847), (.int (6 : Int32)), (.int (3 : Int32)), (.long (p1.toInt64)), (.long (p2.toInt64))]) (rest := []) (lenOf pd_16 rfl) rfl (by show 2 * 0 + _ ≤ _; exact Nat.le_of_eq rfl) (hb hby at_150) (fun _ _ => ⟨rfl, e1958, (by decide : 2 + 0 ≤ _), (by decide : 6 + 0 ≤ _)⟩)
    dsimp only [Pt.U, Pt.locs, Pt.cells, Pt.slots] at X1967 l1970 y1971 z1972 st1973 hQ1969
    subst l1970 y1971 z1972
    obtain ⟨rfl, N1974, e1975⟩ := hQ1969
    have N1977 := Fr.app N1960 N1974
    have k1978 : own_G p e below E0 T1963 (mkF m 153 #[vi p0, vi p1, vi p2, vi p3, vi (3 : Int32), vr a1793, vr r1847, vj (p1.toInt64), ss, vj (p2.toInt64), ss] [(.int (1 : Int32))]) := fun tQ kk => k1962 tQ (st1973 _ kk)
    clear k1962 st1973
    have k1979 : own_G p e below E0 T1963 (mkF m 166 #[vi p0, vi p1, vi p2, vi p3, vi (3 : Int32), vr a1793, vr r1847, vj (p1.toInt64), ss, vj (p2.toInt64), ss] [(.long (p2.toInt64)), (.long (p1.toInt64)), (.int (3 : Int32)), (.int (7 : Int32)), (.ref r1847)]) := by
      intro tQ kk
      refine k1978 tQ ?_
      refine XS.ifNo X1967.here hx rfl (hb hby at_153) rfl (own_if_eqN (by decide)) ?_
      refine XS.aload X1967.here hx rfl (hb hby at_156) rfl rfl ?_
      refine XS.bipush X1967.here hx rfl (hb hby at_158) ?_
      refine XS.iload X1967.here hx rfl (hb hby at_160) rfl ?_
      show Steps p.tables e below (T1963.setTop (mkF m 162 #[vi p0, vi p1, vi p2, vi p3, vi (3 : Int32), vr a1793, vr r1847, vj (p1.toInt64), ss, vj (p2.toInt64), ss] [(.int (3 : Int32)), (.int (7 : Int32)), (.ref r1847)])) tQ
      refine XT.lload X1967.here hx rfl (hb hby at_162) rfl ?_
      refine XT.lload X1967.here hx rfl (hb hby at_164) rfl ?_
      exact kk
    clear k1978
    obtain ⟨_, _, ⟨T1980, L1981, kc1982, nc1983⟩, -, X1984, ⟨Lc1985, hQ1986, l1987, y1988, z1989⟩, st1990⟩ := Jvm.LawKit.callS X1967 hx (y := mn13) hown (mvT hZ (tw39 hw)) (mvT hZ (tw40 hw)) (mvT hZ (tw41 hw)) (mvT hZ (tw42 hw)) (by decide) (backOf (W := 0) (rmT l Z a0 hw [] r1847 (7 : Int32) (3 : Int32) (p1.toInt64) (p2.toInt64) ([(.double (FP.dadd (FP.i2d p1) (FP.dmul (FP.i2d (0 : Int32)) (FP.i2d p2)))), (.double (FP.dadd (FP.i2d p1) (FP.dmul (FP.i2d (1 : Int32)) (FP.i2d p2)))), (.double (FP.dadd (FP.i2d p1) (FP.dmul (FP.i2d (2 : Int32)) (FP.i2d p2))))]) 0 0 T1828.heap n0 Z1851 g1849 (fun z => absurd z (by decide))) hZ (tw42 hw) (tw41 hw) (by decide) (by decide)) (g := (mkF m 166 #[vi p0, vi p1, vi p2, vi p3, vi (3 : Int32), vr a1793, vr r1847, vj (p1.toInt64), ss, vj (p2.toInt64), ss] [(.long (p2.toInt64)), (.long (p1.toInt64)), (.int (3 : Int32)), (.int (7 : Int32)), (.ref r1847)])) rfl (by rw [hml]; rfl) (argsL := [(.ref r1847), (.int (7 : Int32)), (.int (3 : Int32)), (.long (p1.toInt64)), (.long (p2.toInt64))]) (rest := []) (lenOf pd_16 rfl) rfl (by show 2 * 0 + _ ≤ _; exact Nat.le_of_eq rfl) (hb hby at_166) (fun _ _ => ⟨rfl, e1975, (by decide : 2 + 0 ≤ _), (by decide : 6 + 0 ≤ _)⟩)
    dsimp only [Pt.U, Pt.locs, Pt.cells, Pt.slots] at X1984 l1987 y1988 z1989 st1990 hQ1986
    subst l1987 y1988 z1989
    obtain ⟨rfl, N1991, e1992⟩ := hQ1986
    have N1994 := Fr.app N1977 N1991
    have k1995 : own_G p e below E0 T1980 (mkF m 169 #[vi p0, vi p1, vi p2, vi p3, vi (3 : Int32), vr a1793, vr r1847, vj (p1.toInt64), ss, vj (p2.toInt64), ss] [(.int (1 : Int32))]) := fun tQ kk => k1979 tQ (st1990 _ kk)
    clear k1979 st1990
    have k1996 : own_G p e below E0 T1980 (mkF m 177 #[vi p0, vi p1, vi p2, vi p3, vi (3 : Int32), vr a1793, vr r1847, vj (p1.toInt64), ss, vj (p2.toInt64), ss] [(.int (1 : Int32))]) := by
      intro tQ kk
      refine k1995 tQ ?_
      refine XS.ifNo X1984.here hx rfl (hb hby at_169) rfl (own_if_eqN (by decide)) ?_
      refine XS.iconst X1984.here hx rfl (hb hby at_172) ?_
      refine XS.goto X1984.here hx rfl (pc0 := 173) (pc' := 177) rfl (hb hby at_173) (by decide) (by decide) ?_
      exact kk
    clear k1995
    obtain ⟨fs, hr, hrun, hended, hW, hsame⟩ := X1984.leave (v := some (.int (1 : Int32))) (fun h => by rw [Bd.returns] at h; cases h)
    have hrun0 := k1996 _ (retOut X1984 hx Bd.returns (t := .boolean) rfl (Or.inl ⟨rfl, Or.inr (Or.inl rfl), _, rfl⟩) (hb hby at_177) hr)
    subst hE0
    refine ⟨_, _, hrun0, hrun, hended, _, _, rfl, ?_, ⟨_, rfl⟩, hW, hsame.mono (by decide) (by decide)⟩
    show Qrm0 Z p0 p1 p2 p3 h0 n0 _ T1980.heap _
    rw [e1992]
    exact ⟨rfl, N1994⟩
  · skip
    have k1997 : own_G p e below E0 s₁ (mkF m 8 #[vi p0, vi p1, vi p2, vi p3, vi (4 : Int32), uu, uu, uu, uu, uu, uu] []) := by
      intro tQ kk
      refine k1357 tQ ?_
      refine XS.istore X0.here hx rfl (hb hby at_6) rfl (l' := #[vi p0, vi p1, vi p2, vi p3, vi (4 : Int32), uu, uu, uu, uu, uu, uu]) rfl ?_
      exact kk
    clear k1357
    obtain ⟨T1998, h1999, X2000, e2001, E2002, A2003, D2004, -, st2005⟩ := newO X0 hx hZ hown (tw0 hw) (tw1 hw) (tw2 hw) e0 (g := (mkF m 8 #[vi p0, vi p1, vi p2, vi p3, vi (4 : Int32), uu, uu, uu, uu, uu, uu] [])) rfl (hb hby at_8) (by decide) (by decide)
    obtain ⟨a2006, g2007⟩ : ∃ zA : Nat, zA = h0.size := ⟨_, rfl⟩
    rw [← g2007] at A2003 D2004 st2005
    have ge2008 : n0 ≤ a2006 := own_ge_of Z0 g2007
    have Z2009 : n0 ≤ h1999.size := Nat.le_trans Z0 E2002.1
    have F2010 : Fld Z h1999 a2006 "com/example/capwright/capwright/premise/ConstantAmountChange" "yieldRate" "D" (.double (0 : UInt64)) := (D2004 (Or.inr (tw28 hw)) (ty := .double) (by decide))
    have F2011 : Fld Z h1999 a2006 "com/example/capwright/capwright/premise/ConstantAmountChange" "years" "I" (.int (0 : Int32)) := (D2004 (Or.inr (tw30 hw)) (ty := .int) (by decide))
    have F2012 : Fld Z h1999 a2006 "com/example/capwright/capwright/premise/ConstantAmountChange" "step" "D" (.double (0 : UInt64)) := (D2004 (Or.inr (tw32 hw)) (ty := .double) (by decide))
    have k2013 : own_G p e below E0 T1998 (mkF m 11 #[vi p0, vi p1, vi p2, vi p3, vi (4 : Int32), uu, uu, uu, uu, uu, uu] [(.ref a2006)]) := fun tQ kk => k1997 tQ (st2005 _ kk)
    clear k1997 st2005
    have k2014 : own_G p e below E0 T1998 (mkF m 18 #[vi p0, vi p1, vi p2, vi p3, vi (4 : Int32), uu, uu, uu, uu, uu, uu] [(.double (FP.i2d p2)), (.int (4 : Int32)), (.double (FP.i2d p3)), (.ref a2006), (.ref a2006)]) := by
      intro tQ kk
      refine k2013 tQ ?_
      refine XS.dup X2000.here hx rfl (hb hby at_11) rfl rfl ?_
      refine XS.iloadN X2000.here hx rfl (hb hby at_12) rfl ?_
      refine XS.i2dS X2000.here hx rfl (hb hby at_13) rfl rfl ?_
      refine XS.iload X2000.here hx rfl (hb hby at_14) rfl ?_
      show Steps p.tables e below (T1998.setTop (mkF m 16 #[vi p0, vi p1, vi p2, vi p3, vi (4 : Int32), uu, uu, uu, uu, uu, uu] [(.int (4 : Int32)), (.double (FP.i2d p3)), (.ref a2006), (.ref a2006)])) tQ
      refine XS.iloadN X2000.here hx rfl (hb hby at_16) rfl ?_
      refine XS.i2dS X2000.here hx rfl (hb hby at_17) rfl rfl ?_
      exact kk
    clear k2013
    obtain ⟨_, _, ⟨T2015, L2016, kc2017, nc2018⟩, -, X2019, ⟨Lc2020, hQ2021, l2022, y2023, z2024⟩, st2025⟩ := X2000.specialBack hx (y := mn8) rfl hown (mvT hZ (tw3 hw)) (mvT hZ (tw4 hw)) (mvT hZ (tw5 hw)) (by decide) (backOf (W := 1) (rmI l Z a0 hw [] a2006 (FP.i2d p3) (4 : Int32) (FP.i2d p2) h1999 n0 Z2009 A2003 F2010 F2011 F2012 ge2008 (by decide) (Fl.i2d_fin p2)) hZ (tw5 hw) (tw2 hw) (by decide) (by decide)) (g := (mkF m 18 #[vi p0, vi p1, vi p2, vi p3, vi (4 : Int32), uu, uu, uu, uu, uu, uu] [(.double (FP.i2d p2)), (.int (4 : Int32)), (.double (FP.i2d p3)), (.ref a2006), (.ref a2006)])) rfl (by rw [hml]; rfl) (Steps.refl _) (a := a2006) (argsL := [(.double (FP.i2d p3)), (.int (4 : Int32)), (.double (FP.i2d p2))]) (rest := [(.ref a2006)]) (lenOf pd_14 rfl) rfl (by show 2 * 0 + _ ≤ _; exact Nat.le_of_eq rfl) (hb hby at_18) (fun _ _ => ⟨rfl, e2001, (by decide : 1 + 0 ≤ _), (by decide : 3 + 0 ≤ _)⟩)
    dsimp only [Pt.U, Pt.locs, Pt.cells, Pt.slots] at X2019 l2022 y2023 z2024 st2025 hQ2021
    subst l2022 y2023 z2024
    obtain ⟨rfl, N2026, K2029, g2030, g2031, g2032⟩ := hQ2021
    have N2033 := Fr.app N0 N2026
    have Z2034 : n0 ≤ T2015.heap.size := Nat.le_trans Z2009 K2029.1
    have F2035 : xa7 Z T2015.heap a2006 := A2003.keep K2029
    clear A2003
    clear F2010
    clear F2011
    clear F2012
    have k2039 : own_G p e below E0 T2015 (mkF m 21 #[vi p0, vi p1, vi p2, vi p3, vi (4 : Int32), uu, uu, uu, uu, uu, uu] [(.ref a2006)]) := fun tQ kk => k2014 tQ (st2025.trans kk)
    clear k2014 st2025
    have k2040 : own_G p e below E0 T2015 (mkF m 27 #[vi p0, vi p1, vi p2, vi p3, vi (4 : Int32), vr a2006, uu, uu, uu, uu, uu] [(.double (FP.i2d p1)), (.ref a2006)]) := by
      intro tQ kk
      refine k2039 tQ ?_
      refine XS.astore X2019.here hx rfl (hb hby at_21) rfl rfl (l' := #[vi p0, vi p1, vi p2, vi p3, vi (4 : Int32), vr a2006, uu, uu, uu, uu, uu]) rfl ?_
      refine XS.aload X2019.here hx rfl (hb hby at_23) rfl rfl ?_
      refine XS.iloadN X2019.here hx rfl (hb hby at_25) rfl ?_
      refine XS.i2dS X2019.here hx rfl (hb hby at_26) rfl rfl ?_
      exact kk
    clear k2039
    obtain ⟨cq2052, kq2053, qa2054, qb2055, qc2056⟩ := isOf hZ rfl F2035
    obtain ⟨_, _, ⟨T2041, L2042, kc2043, nc2044⟩, -, X2045, ⟨Lc2046, hQ2047, l2048, y2049, z2050⟩, st2051⟩ := X2019.virtualBack hx (y := mn12) (z := mn12) hown (mvT hZ (tw33 hw)) (mvT hZ (tw34 hw)) (notFace_of_selects (args := #[]) (mvT hZ (tw36 hw))) (mvT hZ (tw36 hw)) (mvT hZ (tw35 hw)) (by decide) (backOf (W := 0) (rmV4 l Z a0 hw [] a2006 (FP.i2d p1) (FP.i2d p2) T2015.heap n0 Z2034 g2031 g2032 (own_nn8 p1 p2)) hZ (tw37 hw) (tw2 hw) (by decide) (by decide)) qa2054 qc2056 (g := (mkF m 27 #[vi p0, vi p1, vi p2, vi p3, vi (4 : Int32), vr a2006, uu, uu, uu, uu, uu] [(.double (FP.i2d p1)), (.ref a2006)])) rfl (by rw [hml]; rfl) (Steps.refl _) (argsL := [(.double (FP.i2d p1))]) (rest := []) (lenOf pd_15 rfl) rfl (by show 2 * 0 + _ ≤ _; exact Nat.le_of_eq rfl) (hb hby at_27) (fun _ _ => ⟨rfl, rfl, (by decide : 1 + 1 ≤ _), (by decide : 3 + 4 ≤ _)⟩)
    dsimp only [Pt.U, Pt.locs, Pt.cells, Pt.slots] at X2045 l2048 y2049 z2050 st2051 hQ2047
    subst l2048 y2049 z2050
    obtain ⟨r2060, rfl, N2057, K2061, g2062⟩ := hQ2047
    have N2063 := Fr.app N2033 N2057
    have Z2064 : n0 ≤ T2041.heap.size := Nat.le_trans Z2034 K2061.1
    have F2065 : xa7 Z T2041.heap a2006 := F2035.keep K2061
    clear F2035
    have F2066 : fd4 Z T2041.heap a2006 (.double (FP.i2d p3)) := g2030.keep K2061 nin0
    clear g2030
    have F2067 : fd5 Z T2041.heap a2006 (.int (4 : Int32)) := g2031.keep K2061 nin0
    clear g2031
    have F2068 : fd6 Z T2041.heap a2006 (.double (FP.i2d p2)) := g2032.keep K2061 nin0
    clear g2032
    have k2069 : own_G p e below E0 T2041 (mkF m 30 #[vi p0, vi p1, vi p2, vi p3, vi (4 : Int32), vr a2006, uu, uu, uu, uu, uu] [(.ref r2060)]) := fun tQ kk => k2040 tQ (st2051.trans kk)
    clear k2040 st2051
    have k2070 : own_G p e below E0 T2041 (mkF m 34 #[vi p0, vi p1, vi p2, vi p3, vi (4 : Int32), vr a2006, vr r2060, uu, uu, uu, uu] [(.ref r2060)]) := by
      intro tQ kk
      refine k2069 tQ ?_
      refine XS.astore X2045.here hx rfl (hb hby at_30) rfl rfl (l' := #[vi p0, vi p1, vi p2, vi p3, vi (4 : Int32), vr a2006, vr r2060, uu, uu, uu, uu]) rfl ?_
      refine XS.aload X2045.here hx rfl (hb hby at_32) rfl rfl ?_
      exact kk
    clear k2069
    have st2071 := fun tQ => own_A.len X2045 hx hZ rfl g2062 (g := (mkF m 34 #[vi p0, vi p1, vi p2, vi p3, vi (4 : Int32), vr a2006, vr r2060, uu, uu, uu, uu] [(.ref r2060)])) rfl rfl (hb hby at_34) tQ
    have k2072 : own_G p e below E0 T2041 (mkF m 35 #[vi p0, vi p1, vi p2, vi p3, vi (4 : Int32), vr a2006, vr r2060, uu, uu, uu, uu] [(.int (4 : Int32))]) := fun tQ kk => k2070 tQ (st2071 _ kk)
    clear k2070 st2071
    have k2073 : own_G p e below E0 T2041 (mkF m 59 #[vi p0, vi p1, vi p2, vi p3, vi (4 : Int32), vr a2006, vr r2060, vj (p1.toInt64), ss, vj (p2.toInt64), ss] [(.long (p2.toInt64)), (.long (p1.toInt64)), (.int (4 : Int32)), (.int (0 : Int32)), (.ref r2060)]) := by
      intro tQ kk
      refine k2072 tQ ?_
      refine XS.iload X2045.here hx rfl (hb hby at_35) rfl ?_
      refine XS.icmpYes X2045.here hx rfl (pc0 := 37) (pc' := 42) rfl (hb hby at_37) rfl (own_ic_eqY (by decide)) (by decide) (by decide) ?_
      refine XS.iloadN X2045.here hx rfl (hb hby at_42) rfl ?_
      refine XT.i2l X2045.here hx rfl (hb hby at_43) rfl ?_
      show Steps p.tables e below (T2041.setTop (mkF m 44 #[vi p0, vi p1, vi p2, vi p3, vi (4 : Int32), vr a2006, vr r2060, uu, uu, uu, uu] [(.long (p1.toInt64))])) tQ
      refine XT.lstore X2045.here hx rfl (hb hby at_44) rfl (l' := #[vi p0, vi p1, vi p2, vi p3, vi (4 : Int32), vr a2006, vr r2060, vj (p1.toInt64), ss, uu, uu]) rfl ?_
      refine XS.iloadN X2045.here hx rfl (hb hby at_46) rfl ?_
      refine XT.i2l X2045.here hx rfl (hb hby at_47) rfl ?_
      refine XT.lstore X2045.here hx rfl (hb hby at_48) rfl (l' := #[vi p0, vi p1, vi p2, vi p3, vi (4 : Int32), vr a2006, vr r2060, vj (p1.toInt64), ss, vj (p2.toInt64), ss]) rfl ?_
      show Steps p.tables e below (T2041.setTop (mkF m 50 #[vi p0, vi p1, vi p2, vi p3, vi (4 : Int32), vr a2006, vr r2060, vj (p1.toInt64), ss, vj (p2.toInt64), ss] [])) tQ
      refine XS.aload X2045.here hx rfl (hb hby at_50) rfl rfl ?_
      refine XS.iconst X2045.here hx rfl (hb hby at_52) ?_
      refine XS.iload X2045.here hx rfl (hb hby at_53) rfl ?_
      refine XT.lload X2045.here hx rfl (hb hby at_55) rfl ?_
      show Steps p.tables e below (T2041.setTop (mkF m 57 #[vi p0, vi p1, vi p2, vi p3, vi (4 : Int32), vr a2006, vr r2060, vj (p1.toInt64), ss, vj (p2.toInt64), ss] [(.long (p1.toInt64)), (.int (4 : Int32)), (.int (0 : Int32)), (.ref r2060)])) tQ
      refine XT.lload X2045.here hx rfl (hb hby at_57) rfl ?_
      exact kk
    clear k2072
    obtain ⟨_, _, ⟨T2074, L2075, kc2076, nc2077⟩, -, X2078, ⟨Lc2079, hQ2080, l2081, y2082, z2083⟩, st2084⟩ := Jvm.LawKit.callS X2045 hx (y := mn13) hown (mvT hZ (tw39 hw)) (mvT hZ (tw40 hw)) (mvT hZ (tw41 hw)) (mvT hZ (tw42 hw)) (by decide) (backOf (W := 0) (rmT l Z a0 hw [] r2060 (0 : Int32) (4 : Int32) (p1.toInt64) (p2.toInt64) ([(.double (FP.dadd (FP.i2d p1) (FP.dmul (FP.i2d (0 : Int32)) (FP.i2d p2)))), (.double (FP.dadd (FP.i2d p1) (FP.dmul (FP.i2d (1 : Int32)) (FP.i2d p2)))), (.double (FP.dadd (FP.i2d p1) (FP.dmul (FP.i2d (2 : Int32)) (FP.i2d p2)))), (.double (FP.dadd (FP.i2d p1) (FP.dmul (FP.i2d (3 : Int32)) (FP.i2d p2))))]) (FP.dadd (FP.i2d p1) (FP.dmul (FP.i2d (0 : Int32)) (FP.i2d p2))) (p1.toInt + 0 * p2.toInt) T2041.heap n0 Z2064 g2062 (fun _ => ⟨by decide, rfl, own_el p1 p2 (0 : Int32) 0 rfl (by decide) (by decide), own_le p1 p2 (0 : Int32) 0 rfl (by decide) (by decide)⟩)) hZ (tw42 hw) (tw41 hw) (by decide) (by decide)) (g := (mkF m 59 #[vi p0, vi p1, vi p2, vi p3, vi (4 : Int32), vr a2006, vr r2060, vj (p1.toInt64), ss, vj (p2.toInt64), ss] [(.long (p2.toInt64)), (.long (p1.toInt64)), (.int (4 : Int32)), (.int (0 : Int32)), (.ref r2060)])) rfl (by rw [hml]; rfl) (argsL := [(.ref r2060), (.int (0 : Int32)), (.int (4 : Int32)), (.long (p1.toInt64)), (.long (p2.toInt64))]) (rest := []) (lenOf pd_16 rfl) rfl (by show 2 * 0 + _ ≤ _; exact Nat.le_of_eq rfl) (hb hby at_59) (fun _ _ => ⟨rfl, rfl, (by decide : 2 + 0 ≤ _), (by decide : 7 + 0 ≤ _)⟩)
    dsimp only [Pt.U, Pt.locs, Pt.cells, Pt.slots] at X2078 l2081 y2082 z2083 st2084 hQ2080
    subst l2081 y2082 z2083
    obtain ⟨rfl, N2085, e2086⟩ := hQ2080
    have N2088 := Fr.app N2063 N2085
    have k2089 : own_G p e below E0 T2074 (mkF m 62 #[vi p0, vi p1, vi p2, vi p3, vi (4 : Int32), vr a2006, vr r2060, vj (p1.toInt64), ss, vj (p2.toInt64), ss] [(.int (1 : Int32))]) := fun tQ kk => k2073 tQ (st2084 _ kk)
    clear k2073 st2084
    have k2090 : own_G p e below E0 T2074 (mkF m 74 #[vi p0, vi p1, vi p2, vi p3, vi (4 : Int32), vr a2006, vr r2060, vj (p1.toInt64), ss, vj (p2.toInt64), ss] [(.long (p2.toInt64)), (.long (p1.toInt64)), (.int (4 : Int32)), (.int (1 : Int32)), (.ref r2060)]) := by
      intro tQ kk
      refine k2089 tQ ?_
      refine XS.ifNo X2078.here hx rfl (hb hby at_62) rfl (own_if_eqN (by decide)) ?_
      refine XS.aload X2078.here hx rfl (hb hby at_65) rfl rfl ?_
      refine XS.iconst X2078.here hx rfl (hb hby at_67) ?_
      refine XS.iload X2078.here hx rfl (hb hby at_68) rfl ?_
      show Steps p.tables e below (T2074.setTop (mkF m 70 #[vi p0, vi p1, vi p2, vi p3, vi (4 : Int32), vr a2006, vr r2060, vj (p1.toInt64), ss, vj (p2.toInt64), ss] [(.int (4 : Int32)), (.int (1 : Int32)), (.ref r2060)])) tQ
      refine XT.lload X2078.here hx rfl (hb hby at_70) rfl ?_
      refine XT.lload X2078.here hx rfl (hb hby at_72) rfl ?_
      exact kk
    clear k2089
    obtain ⟨_, _, ⟨T2091, L2092, kc2093, nc2094⟩, -, X2095, ⟨Lc2096, hQ2097, l2098, y2099, z2100⟩, st2101⟩ := Jvm.LawKit.callS X2078 hx (y := mn13) hown (mvT hZ (tw39 hw)) (mvT hZ (tw40 hw)) (mvT hZ (tw41 hw)) (mvT hZ (tw42 hw)) (by decide) (backOf (W := 0) (rmT l Z a0 hw [] r2060 (1 : Int32) (4 : Int32) (p1.toInt64) (p2.toInt64) ([(.double (FP.dadd (FP.i2d p1) (FP.dmul (FP.i2d (0 : Int32)) (FP.i2d p2)))), (.double (FP.dadd (FP.i2d p1) (FP.dmul (FP.i2d (1 : Int32)) (FP.i2d p2)))), (.double (FP.dadd (FP.i2d p1) (FP.dmul (FP.i2d (2 : Int32)) (FP.i2d p2)))), (.double (FP.dadd (FP.i2d p1) (FP.dmul (FP.i2d (3 : Int32)) (FP.i2d p2))))]) (FP.dadd (FP.i2d p1) (FP.dmul (FP.i2d (1 : Int32)) (FP.i2d p2))) (p1.toInt + 1 * p2.toInt) T2041.heap n0 Z2064 g2062 (fun _ => ⟨by decide, rfl, own_el p1 p2 (1 : Int32) 1 rfl (by decide) (by decide), own_le p1 p2 (1 : Int32) 1 rfl (by decide) (by decide)⟩)) hZ (tw42 hw) (tw41 hw) (by decide) (by decide)) (g := (mkF m 74 #[vi p0, vi p1, vi p2, vi p3, vi (4 : Int32), vr a2006, vr r2060, vj (p1.toInt64), ss, vj (p2.toInt64), ss] [(.long (p2.toInt64)), (.long (p1.toInt64)), (.int (4 : Int32)), (.int (1 : Int32)), (.ref r2060)])) rfl (by rw [hml]; rfl) (argsL := [(.ref r2060), (.int (1 : Int32)), (.int (4 : Int32)), (.long (p1.toInt64)), (.long (p2.toInt64))]) (rest := []) (lenOf pd_16 rfl) rfl (by show 2 * 0 + _ ≤ _; exact Nat.le_of_eq rfl) (hb hby at_74) (fun _ _ => ⟨rfl, e2086, (by decide : 2 + 0 ≤ _), (by decide : 7 + 0 ≤ _)⟩)
    dsimp only [Pt.U, Pt.locs, Pt.cells, Pt.slots] at X2095 l2098 y2099 z2100 st2101 hQ2097
    subst l2098 y2099 z2100
    obtain ⟨rfl, N2102, e2103⟩ := hQ2097
    have N2105 := Fr.app N2088 N2102
    have k2106 : own_G p e below E0 T2091 (mkF m 77 #[vi p0, vi p1, vi p2, vi p3, vi (4 : Int32), vr a2006, vr r2060, vj (p1.toInt64), ss, vj (p2.toInt64), ss] [(.int (1 : Int32))]) := fun tQ kk => k2090 tQ (st2101 _ kk)
    clear k2090 st2101
    have k2107 : own_G p e below E0 T2091 (mkF m 89 #[vi p0, vi p1, vi p2, vi p3, vi (4 : Int32), vr a2006, vr r2060, vj (p1.toInt64), ss, vj (p2.toInt64), ss] [(.long (p2.toInt64)), (.long (p1.toInt64)), (.int (4 : Int32)), (.int (2 : Int32)), (.ref r2060)]) := by
      intro tQ kk
      refine k2106 tQ ?_
      refine XS.ifNo X2095.here hx rfl (hb hby at_77) rfl (own_if_eqN (by decide)) ?_
      refine XS.aload X2095.here hx rfl (hb hby at_80) rfl rfl ?_
      refine XS.iconst X2095.here hx rfl (hb hby at_82) ?_
      refine XS.iload X2095.here hx rfl (hb hby at_83) rfl ?_
      show Steps p.tables e below (T2091.setTop (mkF m 85 #[vi p0, vi p1, vi p2, vi p3, vi (4 : Int32), vr a2006, vr r2060, vj (p1.toInt64), ss, vj (p2.toInt64), ss] [(.int (4 : Int32)), (.int (2 : Int32)), (.ref r2060)])) tQ
      refine XT.lload X2095.here hx rfl (hb hby at_85) rfl ?_
      refine XT.lload X2095.here hx rfl (hb hby at_87) rfl ?_
      exact kk
    clear k2106
    obtain ⟨_, _, ⟨T2108, L2109, kc2110, nc2111⟩, -, X2112, ⟨Lc2113, hQ2114, l2115, y2116, z2117⟩, st2118⟩ := Jvm.LawKit.callS X2095 hx (y := mn13) hown (mvT hZ (tw39 hw)) (mvT hZ (tw40 hw)) (mvT hZ (tw41 hw)) (mvT hZ (tw42 hw)) (by decide) (backOf (W := 0) (rmT l Z a0 hw [] r2060 (2 : Int32) (4 : Int32) (p1.toInt64) (p2.toInt64) ([(.double (FP.dadd (FP.i2d p1) (FP.dmul (FP.i2d (0 : Int32)) (FP.i2d p2)))), (.double (FP.dadd (FP.i2d p1) (FP.dmul (FP.i2d (1 : Int32)) (FP.i2d p2)))), (.double (FP.dadd (FP.i2d p1) (FP.dmul (FP.i2d (2 : Int32)) (FP.i2d p2)))), (.double (FP.dadd (FP.i2d p1) (FP.dmul (FP.i2d (3 : Int32)) (FP.i2d p2))))]) (FP.dadd (FP.i2d p1) (FP.dmul (FP.i2d (2 : Int32)) (FP.i2d p2))) (p1.toInt + 2 * p2.toInt) T2041.heap n0 Z2064 g2062 (fun _ => ⟨by decide, rfl, own_el p1 p2 (2 : Int32) 2 rfl (by decide) (by decide), own_le p1 p2 (2 : Int32) 2 rfl (by decide) (by decide)⟩)) hZ (tw42 hw) (tw41 hw) (by decide) (by decide)) (g := (mkF m 89 #[vi p0, vi p1, vi p2, vi p3, vi (4 : Int32), vr a2006, vr r2060, vj (p1.toInt64), ss, vj (p2.toInt64), ss] [(.long (p2.toInt64)), (.long (p1.toInt64)), (.int (4 : Int32)), (.int (2 : Int32)), (.ref r2060)])) rfl (by rw [hml]; rfl) (argsL := [(.ref r2060), (.int (2 : Int32)), (.int (4 : Int32)), (.long (p1.toInt64)), (.long (p2.toInt64))]) (rest := []) (lenOf pd_16 rfl) rfl (by show 2 * 0 + _ ≤ _; exact Nat.le_of_eq rfl) (hb hby at_89) (fun _ _ => ⟨rfl, e2103, (by decide : 2 + 0 ≤ _), (by decide : 7 + 0 ≤ _)⟩)
    dsimp only [Pt.U, Pt.locs, Pt.cells, Pt.slots] at X2112 l2115 y2116 z2117 st2118 hQ2114
    subst l2115 y2116 z2117
    obtain ⟨rfl, N2119, e2120⟩ := hQ2114
    have N2122 := Fr.app N2105 N2119
    have k2123 : own_G p e below E0 T2108 (mkF m 92 #[vi p0, vi p1, vi p2, vi p3, vi (4 : Int32), vr a2006, vr r2060, vj (p1.toInt64), ss, vj (p2.toInt64), ss] [(.int (1 : Int32))]) := fun tQ kk => k2107 tQ (st2118 _ kk)
    clear k2107 st2118
    have k2124 : own_G p e below E0 T2108 (mkF m 104 #[vi p0, vi p1, vi p2, vi p3, vi (4 : Int32), vr a2006, vr r2060, vj (p1.toInt64), ss, vj (p2.toInt64), ss] [(.long (p2.toInt64)), (.long (p1.toInt64)), (.int (4 : Int32)), (.int (3 : Int32)), (.ref r2060)]) := by
      intro tQ kk
      refine k2123 tQ ?_
      refine XS.ifNo X2112.here hx rfl (hb hby at_92) rfl (own_if_eqN (by decide)) ?_
      refine XS.aload X2112.here hx rfl (hb hby at_95) rfl rfl ?_
      refine XS.iconst X2112.here hx rfl (hb hby at_97) ?_
      refine XS.iload X2112.here hx rfl (hb hby at_98) rfl ?_
      show Steps p.tables e below (T2108.setTop (mkF m 100 #[vi p0, vi p1, vi p2, vi p3, vi (4 : Int32), vr a2006, vr r2060, vj (p1.toInt64), ss, vj (p2.toInt64), ss] [(.int (4 : Int32)), (.int (3 : Int32)), (.ref r2060)])) tQ
      refine XT.lload X2112.here hx rfl (hb hby at_100) rfl ?_
      refine XT.lload X2112.here hx rfl (hb hby at_102) rfl ?_
      exact kk
    clear k2123
    obtain ⟨_, _, ⟨T2125, L2126, kc2127, nc2128⟩, -, X2129, ⟨Lc2130, hQ2131, l2132, y2133, z2134⟩, st2135⟩ := Jvm.LawKit.callS X2112 hx (y := mn13) hown (mvT hZ (tw39 hw)) (mvT hZ (tw40 hw)) (mvT hZ (tw41 hw)) (mvT hZ (tw42 hw)) (by decide) (backOf (W := 0) (rmT l Z a0 hw [] r2060 (3 : Int32) (4 : Int32) (p1.toInt64) (p2.toInt64) ([(.double (FP.dadd (FP.i2d p1) (FP.dmul (FP.i2d (0 : Int32)) (FP.i2d p2)))), (.double (FP.dadd (FP.i2d p1) (FP.dmul (FP.i2d (1 : Int32)) (FP.i2d p2)))), (.double (FP.dadd (FP.i2d p1) (FP.dmul (FP.i2d (2 : Int32)) (FP.i2d p2)))), (.double (FP.dadd (FP.i2d p1) (FP.dmul (FP.i2d (3 : Int32)) (FP.i2d p2))))]) (FP.dadd (FP.i2d p1) (FP.dmul (FP.i2d (3 : Int32)) (FP.i2d p2))) (p1.toInt + 3 * p2.toInt) T2041.heap n0 Z2064 g2062 (fun _ => ⟨by decide, rfl, own_el p1 p2 (3 : Int32) 3 rfl (by decide) (by decide), own_le p1 p2 (3 : Int32) 3 rfl (by decide) (by decide)⟩)) hZ (tw42 hw) (tw41 hw) (by decide) (by decide)) (g := (mkF m 104 #[vi p0, vi p1, vi p2, vi p3, vi (4 : Int32), vr a2006, vr r2060, vj (p1.toInt64), ss, vj (p2.toInt64), ss] [(.long (p2.toInt64)), (.long (p1.toInt64)), (.int (4 : Int32)), (.int (3 : Int32)), (.ref r2060)])) rfl (by rw [hml]; rfl) (argsL := [(.ref r2060), (.int (3 : Int32)), (.int (4 : Int32)), (.long (p1.toInt64)), (.long (p2.toInt64))]) (rest := []) (lenOf pd_16 rfl) rfl (by show 2 * 0 + _ ≤ _; exact Nat.le_of_eq rfl) (hb hby at_104) (fun _ _ => ⟨rfl, e2120, (by decide : 2 + 0 ≤ _), (by decide : 7 + 0 ≤ _)⟩)
    dsimp only [Pt.U, Pt.locs, Pt.cells, Pt.slots] at X2129 l2132 y2133 z2134 st2135 hQ2131
    subst l2132 y2133 z2134
    obtain ⟨rfl, N2136, e2137⟩ := hQ2131
    have N2139 := Fr.app N2122 N2136
    have k2140 : own_G p e below E0 T2125 (mkF m 107 #[vi p0, vi p1, vi p2, vi p3, vi (4 : Int32), vr a2006, vr r2060, vj (p1.toInt64), ss, vj (p2.toInt64), ss] [(.int (1 : Int32))]) := fun tQ kk => k2124 tQ (st2135 _ kk)
    clear k2124 st2135
    have k2141 : own_G p e below E0 T2125 (mkF m 119 #[vi p0, vi p1, vi p2, vi p3, vi (4 : Int32), vr a2006, vr r2060, vj (p1.toInt64), ss, vj (p2.toInt64), ss] [(.long (p2.toInt64)), (.long (p1.toInt64)), (.int (4 : Int32)), (.int (4 : Int32)), (.ref r2060)]) := by
      intro tQ kk
      refine k2140 tQ ?_
      refine XS.ifNo X2129.here hx rfl (hb hby at_107) rfl (own_if_eqN (by decide)) ?_
      refine XS.aload X2129.here hx rfl (hb hby at_110) rfl rfl ?_
      refine XS.iconst X2129.here hx rfl (hb hby at_112) ?_
      refine XS.iload X2129.here hx rfl (hb hby at_113) rfl ?_
      show Steps p.tables e below (T2125.setTop (mkF m 115 #[vi p0, vi p1, vi p2, vi p3, vi (4 : Int32), vr a2006, vr r2060, vj (p1.toInt64), ss, vj (p2.toInt64), ss] [(.int (4 : Int32)), (.int (4 : Int32)), (.ref r2060)])) tQ
      refine XT.lload X2129.here hx rfl (hb hby at_115) rfl ?_
      refine XT.lload X2129.here hx rfl (hb hby at_117) rfl ?_
      exact kk
    clear k2140
    obtain ⟨_, _, ⟨T2142, L2143, kc2144, nc2145⟩, -, X2146, ⟨Lc2147, hQ2148, l2149, y2150, z2151⟩, st2152⟩ := Jvm.LawKit.callS X2129 hx (y := mn13) hown (mvT hZ (tw39 hw)) (mvT hZ (tw40 hw)) (mvT hZ (tw41 hw)) (mvT hZ (tw42 hw)) (by decide) (backOf (W := 0) (rmT l Z a0 hw [] r2060 (4 : Int32) (4 : Int32) (p1.toInt64) (p2.toInt64) ([(.double (FP.dadd (FP.i2d p1) (FP.dmul (FP.i2d (0 : Int32)) (FP.i2d p2)))), (.double (FP.dadd (FP.i2d p1) (FP.dmul (FP.i2d (1 : Int32)) (FP.i2d p2)))), (.double (FP.dadd (FP.i2d p1) (FP.dmul (FP.i2d (2 : Int32)) (FP.i2d p2)))), (.double (FP.dadd (FP.i2d p1) (FP.dmul (FP.i2d (3 : Int32)) (FP.i2d p2))))]) 0 0 T2041.heap n0 Z2064 g2062 (fun z => absurd z (by decide))) hZ (tw42 hw) (tw41 hw) (by decide) (by decide)) (g := (mkF m 119 #[vi p0, vi p1, vi p2, vi p3, vi (4 : Int32), vr a2006, vr r2060, vj (p1.toInt64), ss, vj (p2.toInt64), ss] [(.long (p2.toInt64)), (.long (p1.toInt64)), (.int (4 : Int32)), (.int (4 : Int32)), (.ref r2060)])) rfl (by rw [hml]; rfl) (argsL := [(.ref r2060), (.int (4 : Int32)), (.int (4 : Int32)), (.long (p1.toInt64)), (.long (p2.toInt64))]) (rest := []) (lenOf pd_16 rfl) rfl (by show 2 * 0 + _ ≤ _; exact Nat.le_of_eq rfl) (hb hby at_119) (fun _ _ => ⟨rfl, e2137, (by decide : 2 + 0 ≤ _), (by decide : 7 + 0 ≤ _)⟩)
    dsimp only [Pt.U, Pt.locs, Pt.cells, Pt.slots] at X2146 l2149 y2150 z2151 st2152 hQ2148
    subst l2149 y2150 z2151
    obtain ⟨rfl, N2153, e2154⟩ := hQ2148
    have N2156 := Fr.app N2139 N2153
    have k2157 : own_G p e below E0 T2142 (mkF m 122 #[vi p0, vi p1, vi p2, vi p3, vi (4 : Int32), vr a2006, vr r2060, vj (p1.toInt64), ss, vj (p2.toInt64), ss] [(.int (1 : Int32))]) := fun tQ kk => k2141 tQ (st2152 _ kk)
    clear k2141 st2152
    have k2158 : own_G p e below E0 T2142 (mkF m 134 #[vi p0, vi p1, vi p2, vi p3, vi (4 : Int32), vr a2006, vr r2060, vj (p1.toInt64), ss, vj (p2.toInt64), ss] [(.long (p2.toInt64)), (.long (p1.toInt64)), (.int (4 : Int32)), (.int (5 : Int32)), (.ref r2060)]) := by
      intro tQ kk
      refine k2157 tQ ?_
      refine XS.ifNo X2146.here hx rfl (hb hby at_122) rfl (own_if_eqN (by decide)) ?_
      refine XS.aload X2146.here hx rfl (hb hby at_125) rfl rfl ?_
      refine XS.iconst X2146.here hx rfl (hb hby at_127) ?_
      refine XS.iload X2146.here hx rfl (hb hby at_128) rfl ?_
      show Steps p.tables e below (T2142.setTop (mkF m 130 #[vi p0, vi p1, vi p2, vi p3, vi (4 : Int32), vr a2006, vr r2060, vj (p1.toInt64), ss, vj (p2.toInt64), ss] [(.int (4 : Int32)), (.int (5 : Int32)), (.ref r2060)])) tQ
      refine XT.lload X2146.here hx rfl (hb hby at_130) rfl ?_
      refine XT.lload X2146.here hx rfl (hb hby at_132) rfl ?_
      exact kk
    clear k2157
    obtain ⟨_, _, ⟨T2159, L2160, kc2161, nc2162⟩, -, X2163, ⟨Lc2164, hQ2165, l2166, y2167, z2168⟩, st2169⟩ := Jvm.LawKit.callS X2146 hx (y := mn13) hown (mvT hZ (tw39 hw)) (mvT hZ (tw40 hw)) (mvT hZ (tw41 hw)) (mvT hZ (tw42 hw)) (by decide) (backOf (W := 0) (rmT l Z a0 hw [] r2060 (5 : Int32) (4 : Int32) (p1.toInt64) (p2.toInt64) ([(.double (FP.dadd (FP.i2d p1) (FP.dmul (FP.i2d (0 : Int32)) (FP.i2d p2)))), (.double (FP.dadd (FP.i2d p1) (FP.dmul (FP.i2d (1 : Int32)) (FP.i2d p2)))), (.double (FP.dadd (FP.i2d p1) (FP.dmul (FP.i2d (2 : Int32)) (FP.i2d p2)))), (.double (FP.dadd (FP.i2d p1) (FP.dmul (FP.i2d (3 : Int32)) (FP.i2d p2))))]) 0 0 T2041.heap n0 Z2064 g2062 (fun z => absurd z (by decide))) hZ (tw42 hw) (tw41 hw) (by decide) (by decide)) (g := (mkF m 134 #[vi p0, vi p1, vi p2, vi p3, vi (4 : Int32), vr a2006, vr r2060, vj (p1.toInt64), ss, vj (p2.toInt64), ss] [(.long (p2.toInt64)), (.long (p1.toInt64)), (.int (4 : Int32)), (.int (5 : Int32)), (.ref r2060)])) rfl (by rw [hml]; rfl) (argsL := [(.ref r2060), (.int (5 : Int32)), (.int (4 : Int32)), (.long (p1.toInt64)), (.long (p2.toInt64))]) (rest := []) (lenOf pd_16 rfl) rfl (by show 2 * 0 + _ ≤ _; exact Nat.le_of_eq rfl) (hb hby at_134) (fun _ _ => ⟨rfl, e2154, (by decide : 2 + 0 ≤ _), (by decide : 7 + 0 ≤ _)⟩)
    dsimp only [Pt.U, Pt.locs, Pt.cells, Pt.slots] at X2163 l2166 y2167 z2168 st2169 hQ2165
    subst l2166 y2167 z2168
    obtain ⟨rfl, N2170, e2171⟩ := hQ2165
    have N2173 := Fr.app N2156 N2170
    have k2174 : own_G p e below E0 T2159 (mkF m 137 #[vi p0, vi p1, vi p2, vi p3, vi (4 : Int32), vr a2006, vr r2060, vj (p1.toInt64), ss, vj (p2.toInt64), ss] [(.int (1 : Int32))]) := fun tQ kk => k2158 tQ (st2169 _ kk)
    clear k2158 st2169
    have k2175 : own_G p e below E0 T2159 (mkF m 150 #[vi p0, vi p1, vi p2, vi p3, vi (4 : Int32), vr a2006, vr r2060, vj (p1.toInt64), ss, vj (p2.toInt64), ss] [(.long (p2.toInt64)), (.long (p1.toInt64)), (.int (4 : Int32)), (.int (6 : Int32)), (.ref r2060)]) := by
      intro tQ kk
      refine k2174 tQ ?_
      refine XS.ifNo X2163.here hx rfl (hb hby at_137) rfl (own_if_eqN (by decide)) ?_
      refine XS.aload X2163.here hx rfl (hb hby at_140) rfl rfl ?_
      refine XS.bipush X2163.here hx rfl (hb hby at_142) ?_
      refine XS.iload X2163.here hx rfl (hb hby at_144) rfl ?_
      show Steps p.tables e below (T2159.setTop (mkF m 146 #[vi p0, vi p1, vi p2, vi p3, vi (4 : Int32), vr a2006, vr r2060, vj (p1.toInt64), ss, vj (p2.toInt64), ss] [(.int (4 : Int32)), (.int (6 : Int32)), (.ref r2060)])) tQ
      refine XT.lload X2163.here hx rfl (hb hby at_146) rfl ?_
      refine XT.lload X2163.here hx rfl (hb hby at_148) rfl ?_
      exact kk
    clear k2174
    obtain ⟨_, _, ⟨T2176, L2177, kc2178, nc2179⟩, -, X2180, ⟨Lc2181, hQ2182, l2183, y2184, z2185⟩, st2186⟩ := Jvm.LawKit.callS X2163 hx (y := mn13) hown (mvT hZ (tw39 hw)) (mvT hZ (tw40 hw)) (mvT hZ (tw41 hw)) (mvT hZ (tw42 hw)) (by decide) (backOf (W := 0) (rmT l Z a0 hw [] r2060 (6 : Int32) (4 : Int32) (p1.toInt64) (p2.toInt64) ([(.double (FP.dadd (FP.i2d p1) (FP.dmul (FP.i2d (0 : Int32)) (FP.i2d p2)))), (.double (FP.dadd (FP.i2d p1) (FP.dmul (FP.i2d (1 : Int32)) (FP.i2d p2)))), (.double (FP.dadd (FP.i2d p1) (FP.dmul (FP.i2d (2 : Int32)) (FP.i2d p2)))), (.double (FP.dadd (FP.i2d p1) (FP.dmul (FP.i2d (3 : Int32)) (FP.i2d p2))))]) 0 0 T2041.heap n0 Z2064 g2062 (fun z => absurd z (by decide))) hZ (tw42 hw) (tw41 hw) (by decide) (by decide)) (g := (mkF m 150 #[vi p0, vi p1, vi p2, vi p3, vi (4 : Int32), vr a2006, vr r2060, vj (p1.toInt64), ss, vj (p2.toInt64), ss] [(.long (p2.toInt64)), (.long (p1.toInt64)), (.int (4 : Int32)), (.int (6 : Int32)), (.ref r2060)])) rfl (by rw [hml]; rfl) (argsL := [(.ref r2060), (.int (6 : Int32)), (.int (4 : Int32)), (.long (p1.toInt64)), (.long (p2.toInt64))]) (rest := []) (lenOf pd_16 rfl) rfl (by show 2 * 0 + _ ≤ _; exact Nat.le_of_eq rfl) (hb hby at_150) (fun _ _ => ⟨rfl, e2171, (by decide : 2 + 0 ≤ _), (by decide : 7 + 0 ≤ _)⟩)
    dsimp only [Pt.U, Pt.locs, Pt.cells, Pt.slots] at X2180 l2183 y2184 z2185 st2186 hQ2182
    subst l2183 y2184 z2185
    obtain ⟨rfl, N2187, e2188⟩ := hQ2182
    have N2190 := Fr.app N2173 N2187
    have k2191 : own_G p e below E0 T2176 (mkF m 153 #[vi p0, vi p1, vi p2, vi p3, vi (4 : Int32), vr a2006, vr r2060, vj (p1.toInt64), ss, vj (p2.toInt64), ss] [(.int (1 : Int32))]) := fun tQ kk => k2175 tQ (st2186 _ kk)
    clear k2175 st2186
    have k2192 : own_G p e below E0 T2176 (mkF m 166 #[vi p0, vi p1, vi p2, vi p3, vi (4 : Int32), vr a2006, vr r2060, vj (p1.toInt64), ss, vj (p2.toInt64), ss] [(.long (p2.toInt64)), (.long (p1.toInt64)), (.int (4 : Int32)), (.int (7 : Int32)), (.ref r2060)]) := by
      intro tQ kk
      refine k2191 tQ ?_
      refine XS.ifNo X2180.here hx rfl (hb hby at_153) rfl (own_if_eqN (by decide)) ?_
      refine XS.aload X2180.here hx rfl (hb hby at_156) rfl rfl ?_
      refine XS.bipush X2180.here hx rfl (hb hby at_158) ?_
      refine XS.iload X2180.here hx rfl (hb hby at_160) rfl ?_
      show Steps p.tables e below (T2176.setTop (mkF m 162 #[vi p0, vi p1, vi p2, vi p3, vi (4 : Int32), vr a2006, vr r2060, vj (p1.toInt64), ss, vj (p2.toInt64), ss] [(.int (4 : Int32)), (.int (7 : Int32)), (.ref r2060)])) tQ
      refine XT.lload X2180.here hx rfl (hb hby at_162) rfl ?_
      refine XT.lload X2180.here hx rfl (hb hby at_164) rfl ?_
      exact kk
    clear k2191
    obtain ⟨_, _, ⟨T2193, L2194, kc2195, nc2196⟩, -, X2197, ⟨Lc2198, hQ2199, l2200, y2201, z2202⟩, st2203⟩ := Jvm.LawKit.callS X2180 hx (y := mn13) hown (mvT hZ (tw39 hw)) (mvT hZ (tw40 hw)) (mvT hZ (tw41 hw)) (mvT hZ (tw42 hw)) (by decide) (backOf (W := 0) (rmT l Z a0 hw [] r2060 (7 : Int32) (4 : Int32) (p1.toInt64) (p2.toInt64) ([(.double (FP.dadd (FP.i2d p1) (FP.dmul (FP.i2d (0 : Int32)) (FP.i2d p2)))), (.double (FP.dadd (FP.i2d p1) (FP.dmul (FP.i2d (1 : Int32)) (FP.i2d p2)))), (.double (FP.dadd (FP.i2d p1) (FP.dmul (FP.i2d (2 : Int32)) (FP.i2d p2)))), (.double (FP.dadd (FP.i2d p1) (FP.dmul (FP.i2d (3 : Int32)) (FP.i2d p2))))]) 0 0 T2041.heap n0 Z2064 g2062 (fun z => absurd z (by decide))) hZ (tw42 hw) (tw41 hw) (by decide) (by decide)) (g := (mkF m 166 #[vi p0, vi p1, vi p2, vi p3, vi (4 : Int32), vr a2006, vr r2060, vj (p1.toInt64), ss, vj (p2.toInt64), ss] [(.long (p2.toInt64)), (.long (p1.toInt64)), (.int (4 : Int32)), (.int (7 : Int32)), (.ref r2060)])) rfl (by rw [hml]; rfl) (argsL := [(.ref r2060), (.int (7 : Int32)), (.int (4 : Int32)), (.long (p1.toInt64)), (.long (p2.toInt64))]) (rest := []) (lenOf pd_16 rfl) rfl (by show 2 * 0 + _ ≤ _; exact Nat.le_of_eq rfl) (hb hby at_166) (fun _ _ => ⟨rfl, e2188, (by decide : 2 + 0 ≤ _), (by decide : 7 + 0 ≤ _)⟩)
    dsimp only [Pt.U, Pt.locs, Pt.cells, Pt.slots] at X2197 l2200 y2201 z2202 st2203 hQ2199
    subst l2200 y2201 z2202
    obtain ⟨rfl, N2204, e2205⟩ := hQ2199
    have N2207 := Fr.app N2190 N2204
    have k2208 : own_G p e below E0 T2193 (mkF m 169 #[vi p0, vi p1, vi p2, vi p3, vi (4 : Int32), vr a2006, vr r2060, vj (p1.toInt64), ss, vj (p2.toInt64), ss] [(.int (1 : Int32))]) := fun tQ kk => k2192 tQ (st2203 _ kk)
    clear k2192 st2203
    have k2209 : own_G p e below E0 T2193 (mkF m 177 #[vi p0, vi p1, vi p2, vi p3, vi (4 : Int32), vr a2006, vr r2060, vj (p1.toInt64), ss, vj (p2.toInt64), ss] [(.int (1 : Int32))]) := by
      intro tQ kk
      refine k2208 tQ ?_
      refine XS.ifNo X2197.here hx rfl (hb hby at_169) rfl (own_if_eqN (by decide)) ?_
      refine XS.iconst X2197.here hx rfl (hb hby at_172) ?_
      refine XS.goto X2197.here hx rfl (pc0 := 173) (pc' := 177) rfl (hb hby at_173) (by decide) (by decide) ?_
      exact kk
    clear k2208
    obtain ⟨fs, hr, hrun, hended, hW, hsame⟩ := X2197.leave (v := some (.int (1 : Int32))) (fun h => by rw [Bd.returns] at h; cases h)
    have hrun0 := k2209 _ (retOut X2197 hx Bd.returns (t := .boolean) rfl (Or.inl ⟨rfl, Or.inr (Or.inl rfl), _, rfl⟩) (hb hby at_177) hr)
    subst hE0
    refine ⟨_, _, hrun0, hrun, hended, _, _, rfl, ?_, ⟨_, rfl⟩, hW, hsame.mono (by decide) (by decide)⟩
    show Qrm0 Z p0 p1 p2 p3 h0 n0 _ T2193.heap _
    rw [e2205]
    exact ⟨rfl, N2207⟩
  · skip
    have k2210 : own_G p e below E0 s₁ (mkF m 8 #[vi p0, vi p1, vi p2, vi p3, vi (5 : Int32), uu, uu, uu, uu, uu, uu] []) := by
      intro tQ kk
      refine k1357 tQ ?_
      refine XS.istore X0.here hx rfl (hb hby at_6) rfl (l' := #[vi p0, vi p1, vi p2, vi p3, vi (5 : Int32), uu, uu, uu, uu, uu, uu]) rfl ?_
      exact kk
    clear k1357
    obtain ⟨T2211, h2212, X2213, e2214, E2215, A2216, D2217, -, st2218⟩ := newO X0 hx hZ hown (tw0 hw) (tw1 hw) (tw2 hw) e0 (g := (mkF m 8 #[vi p0, vi p1, vi p2, vi p3, vi (5 : Int32), uu, uu, uu, uu, uu, uu] [])) rfl (hb hby at_8) (by decide) (by decide)
    obtain ⟨a2219, g2220⟩ : ∃ zA : Nat, zA = h0.size := ⟨_, rfl⟩
    rw [← g2220] at A2216 D2217 st2218
    have ge2221 : n0 ≤ a2219 := own_ge_of Z0 g2220
    have Z2222 : n0 ≤ h2212.size := Nat.le_trans Z0 E2215.1
    have F2223 : Fld Z h2212 a2219 "com/example/capwright/capwright/premise/ConstantAmountChange" "yieldRate" "D" (.double (0 : UInt64)) := (D2217 (Or.inr (tw28 hw)) (ty := .double) (by decide))
    have F2224 : Fld Z h2212 a2219 "com/example/capwright/capwright/premise/ConstantAmountChange" "years" "I" (.int (0 : Int32)) := (D2217 (Or.inr (tw30 hw)) (ty := .int) (by decide))
    have F2225 : Fld Z h2212 a2219 "com/example/capwright/capwright/premise/ConstantAmountChange" "step" "D" (.double (0 : UInt64)) := (D2217 (Or.inr (tw32 hw)) (ty := .double) (by decide))
    have k2226 : own_G p e below E0 T2211 (mkF m 11 #[vi p0, vi p1, vi p2, vi p3, vi (5 : Int32), uu, uu, uu, uu, uu, uu] [(.ref a2219)]) := fun tQ kk => k2210 tQ (st2218 _ kk)
    clear k2210 st2218
    have k2227 : own_G p e below E0 T2211 (mkF m 18 #[vi p0, vi p1, vi p2, vi p3, vi (5 : Int32), uu, uu, uu, uu, uu, uu] [(.double (FP.i2d p2)), (.int (5 : Int32)), (.double (FP.i2d p3)), (.ref a2219), (.ref a2219)]) := by
      intro tQ kk
      refine k2226 tQ ?_
      refine XS.dup X2213.here hx rfl (hb hby at_11) rfl rfl ?_
      refine XS.iloadN X2213.here hx rfl (hb hby at_12) rfl ?_
      refine XS.i2dS X2213.here hx rfl (hb hby at_13) rfl rfl ?_
      refine XS.iload X2213.here hx rfl (hb hby at_14) rfl ?_
      show Steps p.tables e below (T2211.setTop (mkF m 16 #[vi p0, vi p1, vi p2, vi p3, vi (5 : Int32), uu, uu, uu, uu, uu, uu] [(.int (5 : Int32)), (.double (FP.i2d p3)), (.ref a2219), (.ref a2219)])) tQ
      refine XS.iloadN X2213.here hx rfl (hb hby at_16) rfl ?_
      refine XS.i2dS X2213.here hx rfl (hb hby at_17) rfl rfl ?_
      exact kk
    clear k2226
    obtain ⟨_, _, ⟨T2228, L2229, kc2230, nc2231⟩, -, X2232, ⟨Lc2233, hQ2234, l2235, y2236, z2237⟩, st2238⟩ := X2213.specialBack hx (y := mn8) rfl hown (mvT hZ (tw3 hw)) (mvT hZ (tw4 hw)) (mvT hZ (tw5 hw)) (by decide) (backOf (W := 1) (rmI l Z a0 hw [] a2219 (FP.i2d p3) (5 : Int32) (FP.i2d p2) h2212 n0 Z2222 A2216 F2223 F2224 F2225 ge2221 (by decide) (Fl.i2d_fin p2)) hZ (tw5 hw) (tw2 hw) (by decide) (by decide)) (g := (mkF m 18 #[vi p0, vi p1, vi p2, vi p3, vi (5 : Int32), uu, uu, uu, uu, uu, uu] [(.double (FP.i2d p2)), (.int (5 : Int32)), (.double (FP.i2d p3)), (.ref a2219), (.ref a2219)])) rfl (by rw [hml]; rfl) (Steps.refl _) (a := a2219) (argsL := [(.double (FP.i2d p3)), (.int (5 : Int32)), (.double (FP.i2d p2))]) (rest := [(.ref a2219)]) (lenOf pd_14 rfl) rfl (by show 2 * 0 + _ ≤ _; exact Nat.le_of_eq rfl) (hb hby at_18) (fun _ _ => ⟨rfl, e2214, (by decide : 1 + 0 ≤ _), (by decide : 3 + 0 ≤ _)⟩)
    dsimp only [Pt.U, Pt.locs, Pt.cells, Pt.slots] at X2232 l2235 y2236 z2237 st2238 hQ2234
    subst l2235 y2236 z2237
    obtain ⟨rfl, N2239, K2242, g2243, g2244, g2245⟩ := hQ2234
    have N2246 := Fr.app N0 N2239
    have Z2247 : n0 ≤ T2228.heap.size := Nat.le_trans Z2222 K2242.1
    have F2248 : xa7 Z T2228.heap a2219 := A2216.keep K2242
    clear A2216
    clear F2223
    clear F2224
    clear F2225
    have k2252 : own_G p e below E0 T2228 (mkF m 21 #[vi p0, vi p1, vi p2, vi p3, vi (5 : Int32), uu, uu, uu, uu, uu, uu] [(.ref a2219)]) := fun tQ kk => k2227 tQ (st2238.trans kk)
    clear k2227 st2238
    have k2253 : own_G p e below E0 T2228 (mkF m 27 #[vi p0, vi p1, vi p2, vi p3, vi (5 : Int32), vr a2219, uu, uu, uu, uu, uu] [(.double (FP.i2d p1)), (.ref a2219)]) := by
      intro tQ kk
      refine k2252 tQ ?_
      refine XS.astore X2232.here hx rfl (hb hby at_21) rfl rfl (l' := #[vi p0, vi p1, vi p2, vi p3, vi (5 : Int32), vr a2219, uu, uu, uu, uu, uu]) rfl ?_
      refine XS.aload X2232.here hx rfl (hb hby at_23) rfl rfl ?_
      refine XS.iloadN X2232.here hx rfl (hb hby at_25) rfl ?_
      refine XS.i2dS X2232.here hx rfl (hb hby at_26) rfl rfl ?_
      exact kk
    clear k2252
    obtain ⟨cq2265, kq2266, qa2267, qb2268, qc2269⟩ := isOf hZ rfl F2248
    obtain ⟨_, _, ⟨T2254, L2255, kc2256, nc2257⟩, -, X2258, ⟨Lc2259, hQ2260, l2261, y2262, z2263⟩, st2264⟩ := X2232.virtualBack hx (y := mn12) (z := mn12) hown (mvT hZ (tw33 hw)) (mvT hZ (tw34 hw)) (notFace_of_selects (args := #[]) (mvT hZ (tw36 hw))) (mvT hZ (tw36 hw)) (mvT hZ (tw35 hw)) (by decide) (backOf (W := 0) (rmV5 l Z a0 hw [] a2219 (FP.i2d p1) (FP.i2d p2) T2228.heap n0 Z2247 g2244 g2245 (own_nn8 p1 p2)) hZ (tw37 hw) (tw2 hw) (by decide) (by decide)) qa2267 qc2269 (g := (mkF m 27 #[vi p0, vi p1, vi p2, vi p3, vi (5 : Int32), vr a2219, uu, uu, uu, uu, uu] [(.double (FP.i2d p1)), (.ref a2219)])) rfl (by rw [hml]; rfl) (Steps.refl _) (argsL := [(.double (FP.i2d p1))]) (rest := []) (lenOf pd_15 rfl) rfl (by show 2 * 0 + _ ≤ _; exact Nat.le_of_eq rfl) (hb hby at_27) (fun _ _ => ⟨rfl, rfl, (by decide : 1 + 1 ≤ _), (by decide : 3 + 5 ≤ _)⟩)
    dsimp only [Pt.U, Pt.locs, Pt.cells, Pt.slots] at X2258 l2261 y2262 z2263 st2264 hQ2260
    subst l2261 y2262 z2263
    obtain ⟨r2273, rfl, N2270, K2274, g2275⟩ := hQ2260
    have N2276 := Fr.app N2246 N2270
    have Z2277 : n0 ≤ T2254.heap.size := Nat.le_trans Z2247 K2274.1
    have F2278 : xa7 Z T2254.heap a2219 := F2248.keep K2274
    clear F2248
    have F2279 : fd4 Z T2254.heap a2219 (.double (FP.i2d p3)) := g2243.keep K2274 nin0
    clear g2243
    have F2280 : fd5 Z T2254.heap a2219 (.int (5 : Int32)) := g2244.keep K2274 nin0
    clear g2244
    have F2281 : fd6 Z T2254.heap a2219 (.double (FP.i2d p2)) := g2245.keep K2274 nin0
    clear g2245
    have k2282 : own_G p e below E0 T2254 (mkF m 30 #[vi p0, vi p1, vi p2, vi p3, vi (5 : Int32), vr a2219, uu, uu, uu, uu, uu] [(.ref r2273)]) := fun tQ kk => k2253 tQ (st2264.trans kk)
    clear k2253 st2264
    have k2283 : own_G p e below E0 T2254 (mkF m 34 #[vi p0, vi p1, vi p2, vi p3, vi (5 : Int32), vr a2219, vr r2273, uu, uu, uu, uu] [(.ref r2273)]) := by
      intro tQ kk
      refine k2282 tQ ?_
      refine XS.astore X2258.here hx rfl (hb hby at_30) rfl rfl (l' := #[vi p0, vi p1, vi p2, vi p3, vi (5 : Int32), vr a2219, vr r2273, uu, uu, uu, uu]) rfl ?_
      refine XS.aload X2258.here hx rfl (hb hby at_32) rfl rfl ?_
      exact kk
    clear k2282
    have st2284 := fun tQ => own_A.len X2258 hx hZ rfl g2275 (g := (mkF m 34 #[vi p0, vi p1, vi p2, vi p3, vi (5 : Int32), vr a2219, vr r2273, uu, uu, uu, uu] [(.ref r2273)])) rfl rfl (hb hby at_34) tQ
    have k2285 : own_G p e below E0 T2254 (mkF m 35 #[vi p0, vi p1, vi p2, vi p3, vi (5 : Int32), vr a2219, vr r2273, uu, uu, uu, uu] [(.int (5 : Int32))]) := fun tQ kk => k2283 tQ (st2284 _ kk)
    clear k2283 st2284
    have k2286 : own_G p e below E0 T2254 (mkF m 59 #[vi p0, vi p1, vi p2, vi p3, vi (5 : Int32), vr a2219, vr r2273, vj (p1.toInt64), ss, vj (p2.toInt64), ss] [(.long (p2.toInt64)), (.long (p1.toInt64)), (.int (5 : Int32)), (.int (0 : Int32)), (.ref r2273)]) := by
      intro tQ kk
      refine k2285 tQ ?_
      refine XS.iload X2258.here hx rfl (hb hby at_35) rfl ?_
      refine XS.icmpYes X2258.here hx rfl (pc0 := 37) (pc' := 42) rfl (hb hby at_37) rfl (own_ic_eqY (by decide)) (by decide) (by decide) ?_
      refine XS.iloadN X2258.here hx rfl (hb hby at_42) rfl ?_
      refine XT.i2l X2258.here hx rfl (hb hby at_43) rfl ?_
      show Steps p.tables e below (T2254.setTop (mkF m 44 #[vi p0, vi p1, vi p2, vi p3, vi (5 : Int32), vr a2219, vr r2273, uu, uu, uu, uu] [(.long (p1.toInt64))])) tQ
      refine XT.lstore X2258.here hx rfl (hb hby at_44) rfl (l' := #[vi p0, vi p1, vi p2, vi p3, vi (5 : Int32), vr a2219, vr r2273, vj (p1.toInt64), ss, uu, uu]) rfl ?_
      refine XS.iloadN X2258.here hx rfl (hb hby at_46) rfl ?_
      refine XT.i2l X2258.here hx rfl (hb hby at_47) rfl ?_
      refine XT.lstore X2258.here hx rfl (hb hby at_48) rfl (l' := #[vi p0, vi p1, vi p2, vi p3, vi (5 : Int32), vr a2219, vr r2273, vj (p1.toInt64), ss, vj (p2.toInt64), ss]) rfl ?_
      show Steps p.tables e below (T2254.setTop (mkF m 50 #[vi p0, vi p1, vi p2, vi p3, vi (5 : Int32), vr a2219, vr r2273, vj (p1.toInt64), ss, vj (p2.toInt64), ss] [])) tQ
      refine XS.aload X2258.here hx rfl (hb hby at_50) rfl rfl ?_
      refine XS.iconst X2258.here hx rfl (hb hby at_52) ?_
      refine XS.iload X2258.here hx rfl (hb hby at_53) rfl ?_
      refine XT.lload X2258.here hx rfl (hb hby at_55) rfl ?_
      show Steps p.tables e below (T2254.setTop (mkF m 57 #[vi p0, vi p1, vi p2, vi p3, vi (5 : Int32), vr a2219, vr r2273, vj (p1.toInt64), ss, vj (p2.toInt64), ss] [(.long (p1.toInt64)), (.int (5 : Int32)), (.int (0 : Int32)), (.ref r2273)])) tQ
      refine XT.lload X2258.here hx rfl (hb hby at_57) rfl ?_
      exact kk
    clear k2285
    obtain ⟨_, _, ⟨T2287, L2288, kc2289, nc2290⟩, -, X2291, ⟨Lc2292, hQ2293, l2294, y2295, z2296⟩, st2297⟩ := Jvm.LawKit.callS X2258 hx (y := mn13) hown (mvT hZ (tw39 hw)) (mvT hZ (tw40 hw)) (mvT hZ (tw41 hw)) (mvT hZ (tw42 hw)) (by decide) (backOf (W := 0) (rmT l Z a0 hw [] r2273 (0 : Int32) (5 : Int32) (p1.toInt64) (p2.toInt64) ([(.double (FP.dadd (FP.i2d p1) (FP.dmul (FP.i2d (0 : Int32)) (FP.i2d p2)))), (.double (FP.dadd (FP.i2d p1) (FP.dmul (FP.i2d (1 : Int32)) (FP.i2d p2)))), (.double (FP.dadd (FP.i2d p1) (FP.dmul (FP.i2d (2 : Int32)) (FP.i2d p2)))), (.double (FP.dadd (FP.i2d p1) (FP.dmul (FP.i2d (3 : Int32)) (FP.i2d p2)))), (.double (FP.dadd (FP.i2d p1) (FP.dmul (FP.i2d (4 : Int32)) (FP.i2d p2))))]) (FP.dadd (FP.i2d p1) (FP.dmul (FP.i2d (0 : Int32)) (FP.i2d p2))) (p1.toInt + 0 * p2.toInt) T2254.heap n0 Z2277 g2275 (fun _ => ⟨by decide, rfl, own_el p1 p2 (0 : Int32) 0 rfl (by decide) (by decide), own_le p1 p2 (0 : Int32) 0 rfl (by decide) (by decide)⟩)) hZ (tw42 hw) (tw41 hw) (by decide) (by decide)) (g := (mkF m 59 #[vi p0, vi p1, vi p2, vi p3, vi (5 : Int32), vr a2219, vr r2273, vj (p1.toInt64), ss, vj (p2.toInt64), ss] [(.long (p2.toInt64)), (.long (p1.toInt64)), (.int (5 : Int32)), (.int (0 : Int32)), (.ref r2273)])) rfl (by rw [hml]; rfl) (argsL := [(.ref r2273), (.int (0 : Int32)), (.int (5 : Int32)), (.long (p1.toInt64)), (.long (p2.toInt64))]) (rest := []) (lenOf pd_16 rfl) rfl (by show 2 * 0 + _ ≤ _; exact Nat.le_of_eq rfl) (hb hby at_59) (fun _ _ => ⟨rfl, rfl, (by decide : 2 + 0 ≤ _), (by decide : 8 + 0 ≤ _)⟩)
    dsimp only [Pt.U, Pt.locs, Pt.cells, Pt.slots] at X2291 l2294 y2295 z2296 st2297 hQ2293
    subst l2294 y2295 z2296
    obtain ⟨rfl, N2298, e2299⟩ := hQ2293
    have N2301 := Fr.app N2276 N2298
    have k2302 : own_G p e below E0 T2287 (mkF m 62 #[vi p0, vi p1, vi p2, vi p3, vi (5 : Int32), vr a2219, vr r2273, vj (p1.toInt64), ss, vj (p2.toInt64), ss] [(.int (1 : Int32))]) := fun tQ kk => k2286 tQ (st2297 _ kk)
    clear k2286 st2297
    have k2303 : own_G p e below E0 T2287 (mkF m 74 #[vi p0, vi p1, vi p2, vi p3, vi (5 : Int32), vr a2219, vr r2273, vj (p1.toInt64), ss, vj (p2.toInt64), ss] [(.long (p2.toInt64)), (.long (p1.toInt64)), (.int (5 : Int32)), (.int (1 : Int32)), (.ref r2273)]) := by
      intro tQ kk
      refine k2302 tQ ?_
      refine XS.ifNo X2291.here hx rfl (hb hby at_62) rfl (own_if_eqN (by decide)) ?_
      refine XS.aload X2291.here hx rfl (hb hby at_65) rfl rfl ?_
      refine XS.iconst X2291.here hx rfl (hb hby at_67) ?_
      refine XS.iload X2291.here hx rfl (hb hby at_68) rfl ?_
      show Steps p.tables e below (T2287.setTop (mkF m 70 #[vi p0, vi p1, vi p2, vi p3, vi (5 : Int32), vr a2219, vr r2273, vj (p1.toInt64), ss, vj (p2.toInt64), ss] [(.int (5 : Int32)), (.int (1 : Int32)), (.ref r2273)])) tQ
      refine XT.lload X2291.here hx rfl (hb hby at_70) rfl ?_
      refine XT.lload X2291.here hx rfl (hb hby at_72) rfl ?_
      exact kk
    clear k2302
    obtain ⟨_, _, ⟨T2304, L2305, kc2306, nc2307⟩, -, X2308, ⟨Lc2309, hQ2310, l2311, y2312, z2313⟩, st2314⟩ := Jvm.LawKit.callS X2291 hx (y := mn13) hown (mvT hZ (tw39 hw)) (mvT hZ (tw40 hw)) (mvT hZ (tw41 hw)) (mvT hZ (tw42 hw)) (by decide) (backOf (W := 0) (rmT l Z a0 hw [] r2273 (1 : Int32) (5 : Int32) (p1.toInt64) (p2.toInt64) ([(.double (FP.dadd (FP.i2d p1) (FP.dmul (FP.i2d (0 : Int32)) (FP.i2d p2)))), (.double (FP.dadd (FP.i2d p1) (FP.dmul (FP.i2d (1 : Int32)) (FP.i2d p2)))), (.double (FP.dadd (FP.i2d p1) (FP.dmul (FP.i2d (2 : Int32)) (FP.i2d p2)))), (.double (FP.dadd (FP.i2d p1) (FP.dmul (FP.i2d (3 : Int32)) (FP.i2d p2)))), (.double (FP.dadd (FP.i2d p1) (FP.dmul (FP.i2d (4 : Int32)) (FP.i2d p2))))]) (FP.dadd (FP.i2d p1) (FP.dmul (FP.i2d (1 : Int32)) (FP.i2d p2))) (p1.toInt + 1 * p2.toInt) T2254.heap n0 Z2277 g2275 (fun _ => ⟨by decide, rfl, own_el p1 p2 (1 : Int32) 1 rfl (by decide) (by decide), own_le p1 p2 (1 : Int32) 1 rfl (by decide) (by decide)⟩)) hZ (tw42 hw) (tw41 hw) (by decide) (by decide)) (g := (mkF m 74 #[vi p0, vi p1, vi p2, vi p3, vi (5 : Int32), vr a2219, vr r2273, vj (p1.toInt64), ss, vj (p2.toInt64), ss] [(.long (p2.toInt64)), (.long (p1.toInt64)), (.int (5 : Int32)), (.int (1 : Int32)), (.ref r2273)])) rfl (by rw [hml]; rfl) (argsL := [(.ref r2273), (.int (1 : Int32)), (.int (5 : Int32)), (.long (p1.toInt64)), (.long (p2.toInt64))]) (rest := []) (lenOf pd_16 rfl) rfl (by show 2 * 0 + _ ≤ _; exact Nat.le_of_eq rfl) (hb hby at_74) (fun _ _ => ⟨rfl, e2299, (by decide : 2 + 0 ≤ _), (by decide : 8 + 0 ≤ _)⟩)
    dsimp only [Pt.U, Pt.locs, Pt.cells, Pt.slots] at X2308 l2311 y2312 z2313 st2314 hQ2310
    subst l2311 y2312 z2313
    obtain ⟨rfl, N2315, e2316⟩ := hQ2310
    have N2318 := Fr.app N2301 N2315
    have k2319 : own_G p e below E0 T2304 (mkF m 77 #[vi p0, vi p1, vi p2, vi p3, vi (5 : Int32), vr a2219, vr r2273, vj (p1.toInt64), ss, vj (p2.toInt64), ss] [(.int (1 : Int32))]) := fun tQ kk => k2303 tQ (st2314 _ kk)
    clear k2303 st2314
    have k2320 : own_G p e below E0 T2304 (mkF m 89 #[vi p0, vi p1, vi p2, vi p3, vi (5 : Int32), vr a2219, vr r2273, vj (p1.toInt64), ss, vj (p2.toInt64), ss] [(.long (p2.toInt64)), (.long (p1.toInt64)), (.int (5 : Int32)), (.int (2 : Int32)), (.ref r2273)]) := by
      intro tQ kk
      refine k2319 tQ ?_
      refine XS.ifNo X2308.here hx rfl (hb hby at_77) rfl (own_if_eqN (by decide)) ?_
      refine XS.aload X2308.here hx rfl (hb hby at_80) rfl rfl ?_
      refine XS.iconst X2308.here hx rfl (hb hby at_82) ?_
      refine XS.iload X2308.here hx rfl (hb hby at_83) rfl ?_
      show Steps p.tables e below (T2304.setTop (mkF m 85 #[vi p0, vi p1, vi p2, vi p3, vi (5 : Int32), vr a2219, vr r2273, vj (p1.toInt64), ss, vj (p2.toInt64), ss] [(.int (5 : Int32)), (.int (2 : Int32)), (.ref r2273)])) tQ
      refine XT.lload X2308.here hx rfl (hb hby at_85) rfl ?_
      refine XT.lload X2308.here hx rfl (hb hby at_87) rfl ?_
      exact kk
    clear k2319
    obtain ⟨_, _, ⟨T2321, L2322, kc2323, nc2324⟩, -, X2325, ⟨Lc2326, hQ2327, l2328, y2329, z2330⟩, st2331⟩ := Jvm.LawKit.callS X2308 hx (y := mn13) hown (mvT hZ (tw39 hw)) (mvT hZ (tw40 hw)) (mvT hZ (tw41 hw)) (mvT hZ (tw42 hw)) (by decide) (backOf (W := 0) (rmT l Z a0 hw [] r2273 (2 : Int32) (5 : Int32) (p1.toInt64) (p2.toInt64) ([(.double (FP.dadd (FP.i2d p1) (FP.dmul (FP.i2d (0 : Int32)) (FP.i2d p2)))), (.double (FP.dadd (FP.i2d p1) (FP.dmul (FP.i2d (1 : Int32)) (FP.i2d p2)))), (.double (FP.dadd (FP.i2d p1) (FP.dmul (FP.i2d (2 : Int32)) (FP.i2d p2)))), (.double (FP.dadd (FP.i2d p1) (FP.dmul (FP.i2d (3 : Int32)) (FP.i2d p2)))), (.double (FP.dadd (FP.i2d p1) (FP.dmul (FP.i2d (4 : Int32)) (FP.i2d p2))))]) (FP.dadd (FP.i2d p1) (FP.dmul (FP.i2d (2 : Int32)) (FP.i2d p2))) (p1.toInt + 2 * p2.toInt) T2254.heap n0 Z2277 g2275 (fun _ => ⟨by decide, rfl, own_el p1 p2 (2 : Int32) 2 rfl (by decide) (by decide), own_le p1 p2 (2 : Int32) 2 rfl (by decide) (by decide)⟩)) hZ (tw42 hw) (tw41 hw) (by decide) (by decide)) (g := (mkF m 89 #[vi p0, vi p1, vi p2, vi p3, vi (5 : Int32), vr a2219, vr r2273, vj (p1.toInt64), ss, vj (p2.toInt64), ss] [(.long (p2.toInt64)), (.long (p1.toInt64)), (.int (5 : Int32)), (.int (2 : Int32)), (.ref r2273)])) rfl (by rw [hml]; rfl) (argsL := [(.ref r2273), (.int (2 : Int32)), (.int (5 : Int32)), (.long (p1.toInt64)), (.long (p2.toInt64))]) (rest := []) (lenOf pd_16 rfl) rfl (by show 2 * 0 + _ ≤ _; exact Nat.le_of_eq rfl) (hb hby at_89) (fun _ _ => ⟨rfl, e2316, (by decide : 2 + 0 ≤ _), (by decide : 8 + 0 ≤ _)⟩)
    dsimp only [Pt.U, Pt.locs, Pt.cells, Pt.slots] at X2325 l2328 y2329 z2330 st2331 hQ2327
    subst l2328 y2329 z2330
    obtain ⟨rfl, N2332, e2333⟩ := hQ2327
    have N2335 := Fr.app N2318 N2332
    have k2336 : own_G p e below E0 T2321 (mkF m 92 #[vi p0, vi p1, vi p2, vi p3, vi (5 : Int32), vr a2219, vr r2273, vj (p1.toInt64), ss, vj (p2.toInt64), ss] [(.int (1 : Int32))]) := fun tQ kk => k2320 tQ (st2331 _ kk)
    clear k2320 st2331
    have k2337 : own_G p e below E0 T2321 (mkF m 104 #[vi p0, vi p1, vi p2, vi p3, vi (5 : Int32), vr a2219, vr r2273, vj (p1.toInt64), ss, vj (p2.toInt64), ss] [(.long (p2.toInt64)), (.long (p1.toInt64)), (.int (5 : Int32)), (.int (3 : Int32)), (.ref r2273)]) := by
      intro tQ kk
      refine k2336 tQ ?_
      refine XS.ifNo X2325.here hx rfl (hb hby at_92) rfl (own_if_eqN (by decide)) ?_
      refine XS.aload X2325.here hx rfl (hb hby at_95) rfl rfl ?_
      refine XS.iconst X2325.here hx rfl (hb hby at_97) ?_
      refine XS.iload X2325.here hx rfl (hb hby at_98) rfl ?_
      show Steps p.tables e below (T2321.setTop (mkF m 100 #[vi p0, vi p1, vi p2, vi p3, vi (5 : Int32), vr a2219, vr r2273, vj (p1.toInt64), ss, vj (p2.toInt64), ss] [(.int (5 : Int32)), (.int (3 : Int32)), (.ref r2273)])) tQ
      refine XT.lload X2325.here hx rfl (hb hby at_100) rfl ?_
      refine XT.lload X2325.here hx rfl (hb hby at_102) rfl ?_
      exact kk
    clear k2336
    obtain ⟨_, _, ⟨T2338, L2339, kc2340, nc2341⟩, -, X2342, ⟨Lc2343, hQ2344, l2345, y2346, z2347⟩, st2348⟩ := Jvm.LawKit.callS X2325 hx (y := mn13) hown (mvT hZ (tw39 hw)) (mvT hZ (tw40 hw)) (mvT hZ (tw41 hw)) (mvT hZ (tw42 hw)) (by decide) (backOf (W := 0) (rmT l Z a0 hw [] r2273 (3 : Int32) (5 : Int32) (p1.toInt64) (p2.toInt64) ([(.double (FP.dadd (FP.i2d p1) (FP.dmul (FP.i2d (0 : Int32)) (FP.i2d p2)))), (.double (FP.dadd (FP.i2d p1) (FP.dmul (FP.i2d (1 : Int32)) (FP.i2d p2)))), (.double (FP.dadd (FP.i2d p1) (FP.dmul (FP.i2d (2 : Int32)) (FP.i2d p2)))), (.double (FP.dadd (FP.i2d p1) (FP.dmul (FP.i2d (3 : Int32)) (FP.i2d p2)))), (.double (FP.dadd (FP.i2d p1) (FP.dmul (FP.i2d (4 : Int32)) (FP.i2d p2))))]) (FP.dadd (FP.i2d p1) (FP.dmul (FP.i2d (3 : Int32)) (FP.i2d p2))) (p1.toInt + 3 * p2.toInt) T2254.heap n0 Z2277 g2275 (fun _ => ⟨by decide, rfl, own_el p1 p2 (3 : Int32) 3 rfl (by decide) (by decide), own_le p1 p2 (3 : Int32) 3 rfl (by decide) (by decide)⟩)) hZ (tw42 hw) (tw41 hw) (by decide) (by decide)) (g := (mkF m 104 #[vi p0, vi p1, vi p2, vi p3, vi (5 : Int32), vr a2219, vr r2273, vj (p1.toInt64), ss, vj (p2.toInt64), ss] [(.long (p2.toInt64)), (.long (p1.toInt64)), (.int (5 : Int32)), (.int (3 : Int32)), (.ref r2273)])) rfl (by rw [hml]; rfl) (argsL := [(.ref r2273), (.int (3 : Int32)), (.int (5 : Int32)), (.long (p1.toInt64)), (.long (p2.toInt64))]) (rest := []) (lenOf pd_16 rfl) rfl (by show 2 * 0 + _ ≤ _; exact Nat.le_of_eq rfl) (hb hby at_104) (fun _ _ => ⟨rfl, e2333, (by decide : 2 + 0 ≤ _), (by decide : 8 + 0 ≤ _)⟩)
    dsimp only [Pt.U, Pt.locs, Pt.cells, Pt.slots] at X2342 l2345 y2346 z2347 st2348 hQ2344
    subst l2345 y2346 z2347
    obtain ⟨rfl, N2349, e2350⟩ := hQ2344
    have N2352 := Fr.app N2335 N2349
    have k2353 : own_G p e below E0 T2338 (mkF m 107 #[vi p0, vi p1, vi p2, vi p3, vi (5 : Int32), vr a2219, vr r2273, vj (p1.toInt64), ss, vj (p2.toInt64), ss] [(.int (1 : Int32))]) := fun tQ kk => k2337 tQ (st2348 _ kk)
    clear k2337 st2348
    have k2354 : own_G p e below E0 T2338 (mkF m 119 #[vi p0, vi p1, vi p2, vi p3, vi (5 : Int32), vr a2219, vr r2273, vj (p1.toInt64), ss, vj (p2.toInt64), ss] [(.long (p2.toInt64)), (.long (p1.toInt64)), (.int (5 : Int32)), (.int (4 : Int32)), (.ref r2273)]) := by
      intro tQ kk
      refine k2353 tQ ?_
      refine XS.ifNo X2342.here hx rfl (hb hby at_107) rfl (own_if_eqN (by decide)) ?_
      refine XS.aload X2342.here hx rfl (hb hby at_110) rfl rfl ?_
      refine XS.iconst X2342.here hx rfl (hb hby at_112) ?_
      refine XS.iload X2342.here hx rfl (hb hby at_113) rfl ?_
      show Steps p.tables e below (T2338.setTop (mkF m 115 #[vi p0, vi p1, vi p2, vi p3, vi (5 : Int32), vr a2219, vr r2273, vj (p1.toInt64), ss, vj (p2.toInt64), ss] [(.int (5 : Int32)), (.int (4 : Int32)), (.ref r2273)])) tQ
      refine XT.lload X2342.here hx rfl (hb hby at_115) rfl ?_
      refine XT.lload X2342.here hx rfl (hb hby at_117) rfl ?_
      exact kk
    clear k2353
    obtain ⟨_, _, ⟨T2355, L2356, kc2357, nc2358⟩, -, X2359, ⟨Lc2360, hQ2361, l2362, y2363, z2364⟩, st2365⟩ := Jvm.LawKit.callS X2342 hx (y := mn13) hown (mvT hZ (tw39 hw)) (mvT hZ (tw40 hw)) (mvT hZ (tw41 hw)) (mvT hZ (tw42 hw)) (by decide) (backOf (W := 0) (rmT l Z a0 hw [] r2273 (4 : Int32) (5 : Int32) (p1.toInt64) (p2.toInt64) ([(.double (FP.dadd (FP.i2d p1) (FP.dmul (FP.i2d (0 : Int32)) (FP.i2d p2)))), (.double (FP.dadd (FP.i2d p1) (FP.dmul (FP.i2d (1 : Int32)) (FP.i2d p2)))), (.double (FP.dadd (FP.i2d p1) (FP.dmul (FP.i2d (2 : Int32)) (FP.i2d p2)))), (.double (FP.dadd (FP.i2d p1) (FP.dmul (FP.i2d (3 : Int32)) (FP.i2d p2)))), (.double (FP.dadd (FP.i2d p1) (FP.dmul (FP.i2d (4 : Int32)) (FP.i2d p2))))]) (FP.dadd (FP.i2d p1) (FP.dmul (FP.i2d (4 : Int32)) (FP.i2d p2))) (p1.toInt + 4 * p2.toInt) T2254.heap n0 Z2277 g2275 (fun _ => ⟨by decide, rfl, own_el p1 p2 (4 : Int32) 4 rfl (by decide) (by decide), own_le p1 p2 (4 : Int32) 4 rfl (by decide) (by decide)⟩)) hZ (tw42 hw) (tw41 hw) (by decide) (by decide)) (g := (mkF m 119 #[vi p0, vi p1, vi p2, vi p3, vi (5 : Int32), vr a2219, vr r2273, vj (p1.toInt64), ss, vj (p2.toInt64), ss] [(.long (p2.toInt64)), (.long (p1.toInt64)), (.int (5 : Int32)), (.int (4 : Int32)), (.ref r2273)])) rfl (by rw [hml]; rfl) (argsL := [(.ref r2273), (.int (4 : Int32)), (.int (5 : Int32)), (.long (p1.toInt64)), (.long (p2.toInt64))]) (rest := []) (lenOf pd_16 rfl) rfl (by show 2 * 0 + _ ≤ _; exact Nat.le_of_eq rfl) (hb hby at_119) (fun _ _ => ⟨rfl, e2350, (by decide : 2 + 0 ≤ _), (by decide : 8 + 0 ≤ _)⟩)
    dsimp only [Pt.U, Pt.locs, Pt.cells, Pt.slots] at X2359 l2362 y2363 z2364 st2365 hQ2361
    subst l2362 y2363 z2364
    obtain ⟨rfl, N2366, e2367⟩ := hQ2361
    have N2369 := Fr.app N2352 N2366
    have k2370 : own_G p e below E0 T2355 (mkF m 122 #[vi p0, vi p1, vi p2, vi p3, vi (5 : Int32), vr a2219, vr r2273, vj (p1.toInt64), ss, vj (p2.toInt64), ss] [(.int (1 : Int32))]) := fun tQ kk => k2354 tQ (st2365 _ kk)
    clear k2354 st2365
    have k2371 : own_G p e below E0 T2355 (mkF m 134 #[vi p0, vi p1, vi p2, vi p3, vi (5 : Int32), vr a2219, vr r2273, vj (p1.toInt64), ss, vj (p2.toInt64), ss] [(.long (p2.toInt64)), (.long (p1.toInt64)), (.int (5 : Int32)), (.int (5 : Int32)), (.ref r2273)]) := by
      intro tQ kk
      refine k2370 tQ ?_
      refine XS.ifNo X2359.here hx rfl (hb hby at_122) rfl (own_if_eqN (by decide)) ?_
      refine XS.aload X2359.here hx rfl (hb hby at_125) rfl rfl ?_
      refine XS.iconst X2359.here hx rfl (hb hby at_127) ?_
      refine XS.iload X2359.here hx rfl (hb hby at_128) rfl ?_
      show Steps p.tables e below (T2355.setTop (mkF m 130 #[vi p0, vi p1, vi p2, vi p3, vi (5 : Int32), vr a2219, vr r2273, vj (p1.toInt64), ss, vj (p2.toInt64), ss] [(.int (5 : Int32)), (.int (5 : Int32)), (.ref r2273)])) tQ
      refine XT.lload X2359.here hx rfl (hb hby at_130) rfl ?_
      refine XT.lload X2359.here hx rfl (hb hby at_132) rfl ?_
      exact kk
    clear k2370
    obtain ⟨_, _, ⟨T2372, L2373, kc2374, nc2375⟩, -, X2376, ⟨Lc2377, hQ2378, l2379, y2380, z2381⟩, st2382⟩ := Jvm.LawKit.callS X2359 hx (y := mn13) hown (mvT hZ (tw39 hw)) (mvT hZ (tw40 hw)) (mvT hZ (tw41 hw)) (mvT hZ (tw42 hw)) (by decide) (backOf (W := 0) (rmT l Z a0 hw [] r2273 (5 : Int32) (5 : Int32) (p1.toInt64) (p2.toInt64) ([(.double (FP.dadd (FP.i2d p1) (FP.dmul (FP.i2d (0 : Int32)) (FP.i2d p2)))), (.double (FP.dadd (FP.i2d p1) (FP.dmul (FP.i2d (1 : Int32)) (FP.i2d p2)))), (.double (FP.dadd (FP.i2d p1) (FP.dmul (FP.i2d (2 : Int32)) (FP.i2d p2)))), (.double (FP.dadd (FP.i2d p1) (FP.dmul (FP.i2d (3 : Int32)) (FP.i2d p2)))), (.double (FP.dadd (FP.i2d p1) (FP.dmul (FP.i2d (4 : Int32)) (FP.i2d p2))))]) 0 0 T2254.heap n0 Z2277 g2275 (fun z => absurd z (by decide))) hZ (tw42 hw) (tw41 hw) (by decide) (by decide)) (g := (mkF m 134 #[vi p0, vi p1, vi p2, vi p3, vi (5 : Int32), vr a2219, vr r2273, vj (p1.toInt64), ss, vj (p2.toInt64), ss] [(.long (p2.toInt64)), (.long (p1.toInt64)), (.int (5 : Int32)), (.int (5 : Int32)), (.ref r2273)])) rfl (by rw [hml]; rfl) (argsL := [(.ref r2273), (.int (5 : Int32)), (.int (5 : Int32)), (.long (p1.toInt64)), (.long (p2.toInt64))]) (rest := []) (lenOf pd_16 rfl) rfl (by show 2 * 0 + _ ≤ _; exact Nat.le_of_eq rfl) (hb hby at_134) (fun _ _ => ⟨rfl, e2367, (by decide : 2 + 0 ≤ _), (by decide : 8 + 0 ≤ _)⟩)
    dsimp only [Pt.U, Pt.locs, Pt.cells, Pt.slots] at X2376 l2379 y2380 z2381 st2382 hQ2378
    subst l2379 y2380 z2381
    obtain ⟨rfl, N2383, e2384⟩ := hQ2378
    have N2386 := Fr.app N2369 N2383
    have k2387 : own_G p e below E0 T2372 (mkF m 137 #[vi p0, vi p1, vi p2, vi p3, vi (5 : Int32), vr a2219, vr r2273, vj (p1.toInt64), ss, vj (p2.toInt64), ss] [(.int (1 : Int32))]) := fun tQ kk => k2371 tQ (st2382 _ kk)
    clear k2371 st2382
    have k2388 : own_G p e below E0 T2372 (mkF m 150 #[vi p0, vi p1, vi p2, vi p3, vi (5 : Int32), vr a2219, vr r2273, vj (p1.toInt64), ss, vj (p2.toInt64), ss] [(.long (p2.toInt64)), (.long (p1.toInt64)), (.int (5 : Int32)), (.int (6 : Int32)), (.ref r2273)]) := by
      intro tQ kk
      refine k2387 tQ ?_
      refine XS.ifNo X2376.here hx rfl (hb hby at_137) rfl (own_if_eqN (by decide)) ?_
      refine XS.aload X2376.here hx rfl (hb hby at_140) rfl rfl ?_
      refine XS.bipush X2376.here hx rfl (hb hby at_142) ?_
      refine XS.iload X2376.here hx rfl (hb hby at_144) rfl ?_
      show Steps p.tables e below (T2372.setTop (mkF m 146 #[vi p0, vi p1, vi p2, vi p3, vi (5 : Int32), vr a2219, vr r2273, vj (p1.toInt64), ss, vj (p2.toInt64), ss] [(.int (5 : Int32)), (.int (6 : Int32)), (.ref r2273)])) tQ
      refine XT.lload X2376.here hx rfl (hb hby at_146) rfl ?_
      refine XT.lload X2376.here hx rfl (hb hby at_148) rfl ?_
      exact kk
    clear k2387
    obtain ⟨_, _, ⟨T2389, L2390, kc2391, nc2392⟩, -, X2393, ⟨Lc2394, hQ2395, l2396, y2397, z2398⟩, st2399⟩ := Jvm.LawKit.callS X2376 hx (y := mn13) hown (mvT hZ (tw39 hw)) (mvT hZ (tw40 hw)) (mvT hZ (tw41 hw)) (mvT hZ (tw42 hw)) (by decide) (backOf (W := 0) (rmT l Z a0 hw [] r2273 (6 : Int32) (5 : Int32) (p1.toInt64) (p2.toInt64) ([(.double (FP.dadd (FP.i2d p1) (FP.dmul (FP.i2d (0 : Int32)) (FP.i2d p2)))), (.double (FP.dadd (FP.i2d p1) (FP.dmul (FP.i2d (1 : Int32)) (FP.i2d p2)))), (.double (FP.dadd (FP.i2d p1) (FP.dmul (FP.i2d (2 : Int32)) (FP.i2d p2)))), (.double (FP.dadd (FP.i2d p1) (FP.dmul (FP.i2d (3 : Int32)) (FP.i2d p2)))), (.double (FP.dadd (FP.i2d p1) (FP.dmul (FP.i2d (4 : Int32)) (FP.i2d p2))))]) 0 0 T2254.heap n0 Z2277 g2275 (fun z => absurd z (by decide))) hZ (tw42 hw) (tw41 hw) (by decide) (by decide)) (g := (mkF m 150 #[vi p0, vi p1, vi p2, vi p3, vi (5 : Int32), vr a2219, vr r2273, vj (p1.toInt64), ss, vj (p2.toInt64), ss] [(.long (p2.toInt64)), (.long (p1.toInt64)), (.int (5 : Int32)), (.int (6 : Int32)), (.ref r2273)])) rfl (by rw [hml]; rfl) (argsL := [(.ref r2273), (.int (6 : Int32)), (.int (5 : Int32)), (.long (p1.toInt64)), (.long (p2.toInt64))]) (rest := []) (lenOf pd_16 rfl) rfl (by show 2 * 0 + _ ≤ _; exact Nat.le_of_eq rfl) (hb hby at_150) (fun _ _ => ⟨rfl, e2384, (by decide : 2 + 0 ≤ _), (by decide : 8 + 0 ≤ _)⟩)
    dsimp only [Pt.U, Pt.locs, Pt.cells, Pt.slots] at X2393 l2396 y2397 z2398 st2399 hQ2395
    subst l2396 y2397 z2398
    obtain ⟨rfl, N2400, e2401⟩ := hQ2395
    have N2403 := Fr.app N2386 N2400
    have k2404 : own_G p e below E0 T2389 (mkF m 153 #[vi p0, vi p1, vi p2, vi p3, vi (5 : Int32), vr a2219, vr r2273, vj (p1.toInt64), ss, vj (p2.toInt64), ss] [(.int (1 : Int32))]) := fun tQ kk => k2388 tQ (st2399 _ kk)
    clear k2388 st2399
    have k2405 : own_G p e below E0 T2389 (mkF m 166 #[vi p0, vi p1, vi p2, vi p3, vi (5 : Int32), vr a2219, vr r2273, vj (p1.toInt64), ss, vj (p2.toInt64), ss] [(.long (p2.toInt64)), (.long (p1.toInt64)), (.int (5 : Int32)), (.int (7 : Int32)), (.ref r2273)]) := by
      intro tQ kk
      refine k2404 tQ ?_
      refine XS.ifNo X2393.here hx rfl (hb hby at_153) rfl (own_if_eqN (by decide)) ?_
      refine XS.aload X2393.here hx rfl (hb hby at_156) rfl rfl ?_
      refine XS.bipush X2393.here hx rfl (hb hby at_158) ?_
      refine XS.iload X2393.here hx rfl (hb hby at_160) rfl ?_
      show Steps p.tables e below (T2389.setTop (mkF m 162 #[vi p0, vi p1, vi p2, vi p3, vi (5 : Int32), vr a2219, vr r2273, vj (p1.toInt64), ss, vj (p2.toInt64), ss] [(.int (5 : Int32)), (.int (7 : Int32)), (.ref r2273)])) tQ
      refine XT.lload X2393.here hx rfl (hb hby at_162) rfl ?_
      refine XT.lload X2393.here hx rfl (hb hby at_164) rfl ?_
      exact kk
    clear k2404
    obtain ⟨_, _, ⟨T2406, L2407, kc2408, nc2409⟩, -, X2410, ⟨Lc2411, hQ2412, l2413, y2414, z2415⟩, st2416⟩ := Jvm.LawKit.callS X2393 hx (y := mn13) hown (mvT hZ (tw39 hw)) (mvT hZ (tw40 hw)) (mvT hZ (tw41 hw)) (mvT hZ (tw42 hw)) (by decide) (backOf (W := 0) (rmT l Z a0 hw [] r2273 (7 : Int32) (5 : Int32) (p1.toInt64) (p2.toInt64) ([(.double (FP.dadd (FP.i2d p1) (FP.dmul (FP.i2d (0 : Int32)) (FP.i2d p2)))), (.double (FP.dadd (FP.i2d p1) (FP.dmul (FP.i2d (1 : Int32)) (FP.i2d p2)))), (.double (FP.dadd (FP.i2d p1) (FP.dmul (FP.i2d (2 : Int32)) (FP.i2d p2)))), (.double (FP.dadd (FP.i2d p1) (FP.dmul (FP.i2d (3 : Int32)) (FP.i2d p2)))), (.double (FP.dadd (FP.i2d p1) (FP.dmul (FP.i2d (4 : Int32)) (FP.i2d p2))))]) 0 0 T2254.heap n0 Z2277 g2275 (fun z => absurd z (by decide))) hZ (tw42 hw) (tw41 hw) (by decide) (by decide)) (g := (mkF m 166 #[vi p0, vi p1, vi p2, vi p3, vi (5 : Int32), vr a2219, vr r2273, vj (p1.toInt64), ss, vj (p2.toInt64), ss] [(.long (p2.toInt64)), (.long (p1.toInt64)), (.int (5 : Int32)), (.int (7 : Int32)), (.ref r2273)])) rfl (by rw [hml]; rfl) (argsL := [(.ref r2273), (.int (7 : Int32)), (.int (5 : Int32)), (.long (p1.toInt64)), (.long (p2.toInt64))]) (rest := []) (lenOf pd_16 rfl) rfl (by show 2 * 0 + _ ≤ _; exact Nat.le_of_eq rfl) (hb hby at_166) (fun _ _ => ⟨rfl, e2401, (by decide : 2 + 0 ≤ _), (by decide : 8 + 0 ≤ _)⟩)
    dsimp only [Pt.U, Pt.locs, Pt.cells, Pt.slots] at X2410 l2413 y2414 z2415 st2416 hQ2412
    subst l2413 y2414 z2415
    obtain ⟨rfl, N2417, e2418⟩ := hQ2412
    have N2420 := Fr.app N2403 N2417
    have k2421 : own_G p e below E0 T2406 (mkF m 169 #[vi p0, vi p1, vi p2, vi p3, vi (5 : Int32), vr a2219, vr r2273, vj (p1.toInt64), ss, vj (p2.toInt64), ss] [(.int (1 : Int32))]) := fun tQ kk => k2405 tQ (st2416 _ kk)
    clear k2405 st2416
    have k2422 : own_G p e below E0 T2406 (mkF m 177 #[vi p0, vi p1, vi p2, vi p3, vi (5 : Int32), vr a2219, vr r2273, vj (p1.toInt64), ss, vj (p2.toInt64), ss] [(.int (1 : Int32))]) := by
      intro tQ kk
      refine k2421 tQ ?_
      refine XS.ifNo X2410.here hx rfl (hb hby at_169) rfl (own_if_eqN (by decide)) ?_
      refine XS.iconst X2410.here hx rfl (hb hby at_172) ?_
      refine XS.goto X2410.here hx rfl (pc0 := 173) (pc' := 177) rfl (hb hby at_173) (by decide) (by decide) ?_
      exact kk
    clear k2421
    obtain ⟨fs, hr, hrun, hended, hW, hsame⟩ := X2410.leave (v := some (.int (1 : Int32))) (fun h => by rw [Bd.returns] at h; cases h)
    have hrun0 := k2422 _ (retOut X2410 hx Bd.returns (t := .boolean) rfl (Or.inl ⟨rfl, Or.inr (Or.inl rfl), _, rfl⟩) (hb hby at_177) hr)
    subst hE0
    refine ⟨_, _, hrun0, hrun, hended, _, _, rfl, ?_, ⟨_, rfl⟩, hW, hsame.mono (by decide) (by decide)⟩
    show Qrm0 Z p0 p1 p2 p3 h0 n0 _ T2406.heap _
    rw [e2418]
    exact ⟨rfl, N2420⟩
  · skip
    have k2423 : own_G p e below E0 s₁ (mkF m 8 #[vi p0, vi p1, vi p2, vi p3, vi (6 : Int32), uu, uu, uu, uu, uu, uu] []) := by
      intro tQ kk
      refine k1357 tQ ?_
      refine XS.istore X0.here hx rfl (hb hby at_6) rfl (l' := #[vi p0, vi p1, vi p2, vi p3, vi (6 : Int32), uu, uu, uu, uu, uu, uu]) rfl ?_
      exact kk
    clear k1357
    obtain ⟨T2424, h2425, X2426, e2427, E2428, A2429, D2430, -, st2431⟩ := newO X0 hx hZ hown (tw0 hw) (tw1 hw) (tw2 hw) e0 (g := (mkF m 8 #[vi p0, vi p1, vi p2, vi p3, vi (6 : Int32), uu, uu, uu, uu, uu, uu] [])) rfl (hb hby at_8) (by decide) (by decide)
    obtain ⟨a2432, g2433⟩ : ∃ zA : Nat, zA = h0.size := ⟨_, rfl⟩
    rw [← g2433] at A2429 D2430 st2431
    have ge2434 : n0 ≤ a2432 := own_ge_of Z0 g2433
    have Z2435 : n0 ≤ h2425.size := Nat.le_trans Z0 E2428.1
    have F2436 : Fld Z h2425 a2432 "com/example/capwright/capwright/premise/ConstantAmountChange" "yieldRate" "D" (.double (0 : UInt64)) := (D2430 (Or.inr (tw28 hw)) (ty := .double) (by decide))
    have F2437 : Fld Z h2425 a2432 "com/example/capwright/capwright/premise/ConstantAmountChange" "years" "I" (.int (0 : Int32)) := (D2430 (Or.inr (tw30 hw)) (ty := .int) (by decide))
    have F2438 : Fld Z h2425 a2432 "com/example/capwright/capwright/premise/ConstantAmountChange" "step" "D" (.double (0 : UInt64)) := (D2430 (Or.inr (tw32 hw)) (ty := .double) (by decide))
    have k2439 : own_G p e below E0 T2424 (mkF m 11 #[vi p0, vi p1, vi p2, vi p3, vi (6 : Int32), uu, uu, uu, uu, uu, uu] [(.ref a2432)]) := fun tQ kk => k2423 tQ (st2431 _ kk)
    clear k2423 st2431
    have k2440 : own_G p e below E0 T2424 (mkF m 18 #[vi p0, vi p1, vi p2, vi p3, vi (6 : Int32), uu, uu, uu, uu, uu, uu] [(.double (FP.i2d p2)), (.int (6 : Int32)), (.double (FP.i2d p3)), (.ref a2432), (.ref a2432)]) := by
      intro tQ kk
      refine k2439 tQ ?_
      refine XS.dup X2426.here hx rfl (hb hby at_11) rfl rfl ?_
      refine XS.iloadN X2426.here hx rfl (hb hby at_12) rfl ?_
      refine XS.i2dS X2426.here hx rfl (hb hby at_13) rfl rfl ?_
      refine XS.iload X2426.here hx rfl (hb hby at_14) rfl ?_
      show Steps p.tables e below (T2424.setTop (mkF m 16 #[vi p0, vi p1, vi p2, vi p3, vi (6 : Int32), uu, uu, uu, uu, uu, uu] [(.int (6 : Int32)), (.double (FP.i2d p3)), (.ref a2432), (.ref a2432)])) tQ
      refine XS.iloadN X2426.here hx rfl (hb hby at_16) rfl ?_
      refine XS.i2dS X2426.here hx rfl (hb hby at_17) rfl rfl ?_
      exact kk
    clear k2439
    obtain ⟨_, _, ⟨T2441, L2442, kc2443, nc2444⟩, -, X2445, ⟨Lc2446, hQ2447, l2448, y2449, z2450⟩, st2451⟩ := X2426.specialBack hx (y := mn8) rfl hown (mvT hZ (tw3 hw)) (mvT hZ (tw4 hw)) (mvT hZ (tw5 hw)) (by decide) (backOf (W := 1) (rmI l Z a0 hw [] a2432 (FP.i2d p3) (6 : Int32) (FP.i2d p2) h2425 n0 Z2435 A2429 F2436 F2437 F2438 ge2434 (by decide) (Fl.i2d_fin p2)) hZ (tw5 hw) (tw2 hw) (by decide) (by decide)) (g := (mkF m 18 #[vi p0, vi p1, vi p2, vi p3, vi (6 : Int32), uu, uu, uu, uu, uu, uu] [(.double (FP.i2d p2)), (.int (6 : Int32)), (.double (FP.i2d p3)), (.ref a2432), (.ref a2432)])) rfl (by rw [hml]; rfl) (Steps.refl _) (a := a2432) (argsL := [(.double (FP.i2d p3)), (.int (6 : Int32)), (.double (FP.i2d p2))]) (rest := [(.ref a2432)]) (lenOf pd_14 rfl) rfl (by show 2 * 0 + _ ≤ _; exact Nat.le_of_eq rfl) (hb hby at_18) (fun _ _ => ⟨rfl, e2427, (by decide : 1 + 0 ≤ _), (by decide : 3 + 0 ≤ _)⟩)
    dsimp only [Pt.U, Pt.locs, Pt.cells, Pt.slots] at X2445 l2448 y2449 z2450 st2451 hQ2447
    subst l2448 y2449 z2450
    obtain ⟨rfl, N2452, K2455, g2456, g2457, g2458⟩ := hQ2447
    have N2459 := Fr.app N0 N2452
    have Z2460 : n0 ≤ T2441.heap.size := Nat.le_trans Z2435 K2455.1
    have F2461 : xa7 Z T2441.heap a2432 := A2429.keep K2455
    clear A2429
    clear F2436
    clear F2437
    clear F2438
    have k2465 : own_G p e below E0 T2441 (mkF m 21 #[vi p0, vi p1, vi p2, vi p3, vi (6 : Int32), uu, uu, uu, uu, uu, uu] [(.ref a2432)]) := fun tQ kk => k2440 tQ (st2451.trans kk)
    clear k2440 st2451
    have k2466 : own_G p e below E0 T2441 (mkF m 27 #[vi p0, vi p1, vi p2, vi p3, vi (6 : Int32), vr a2432, uu, uu, uu, uu, uu] [(.double (FP.i2d p1)), (.ref a2432)]) := by
      intro tQ kk
      refine k2465 tQ ?_
      refine XS.astore X2445.here hx rfl (hb hby at_21) rfl rfl (l' := #[vi p0, vi p1, vi p2, vi p3, vi (6 : Int32), vr a2432, uu, uu, uu, uu, uu]) rfl ?_
      refine XS.aload X2445.here hx rfl (hb hby at_23) rfl rfl ?_
      refine XS.iloadN X2445.here hx rfl (hb hby at_25) rfl ?_
      refine XS.i2dS X2445.here hx rfl (hb hby at_26) rfl rfl ?_
      exact kk
    clear k2465
    obtain ⟨cq2478, kq2479, qa2480, qb2481, qc2482⟩ := isOf hZ rfl F2461
    obtain ⟨_, _, ⟨T2467, L2468, kc2469, nc2470⟩, -, X2471, ⟨Lc2472, hQ2473, l2474, y2475, z2476⟩, st2477⟩ := X2445.virtualBack hx (y := mn12) (z := mn12) hown (mvT hZ (tw33 hw)) (mvT hZ (tw34 hw)) (notFace_of_selects (args := #[]) (mvT hZ (tw36 hw))) (mvT hZ (tw36 hw)) (mvT hZ (tw35 hw)) (by decide) (backOf (W := 0) (rmV6 l Z a0 hw [] a2432 (FP.i2d p1) (FP.i2d p2) T2441.heap n0 Z2460 g2457 g2458 (own_nn8 p1 p2)) hZ (tw37 hw) (tw2 hw) (by decide) (by decide)) qa2480 qc2482 (g := (mkF m 27 #[vi p0, vi p1, vi p2, vi p3, vi (6 : Int32), vr a2432, uu, uu, uu, uu, uu] [(.double (FP.i2d p1)), (.ref a2432)])) rfl (by rw [hml]; rfl) (Steps.refl _) (argsL := [(.double (FP.i2d p1))]) (rest := []) (lenOf pd_15 rfl) rfl (by show 2 * 0 + _ ≤ _; exact Nat.le_of_eq rfl) (hb hby at_27) (fun _ _ => ⟨rfl, rfl, (by decide : 1 + 1 ≤ _), (by decide : 3 + 6 ≤ _)⟩)
    dsimp only [Pt.U, Pt.locs, Pt.cells, Pt.slots] at X2471 l2474 y2475 z2476 st2477 hQ2473
    subst l2474 y2475 z2476
    obtain ⟨r2486, rfl, N2483, K2487, g2488⟩ := hQ2473
    have N2489 := Fr.app N2459 N2483
    have Z2490 : n0 ≤ T2467.heap.size := Nat.le_trans Z2460 K2487.1
    have F2491 : xa7 Z T2467.heap a2432 := F2461.keep K2487
    clear F2461
    have F2492 : fd4 Z T2467.heap a2432 (.double (FP.i2d p3)) := g2456.keep K2487 nin0
    clear g2456
    have F2493 : fd5 Z T2467.heap a2432 (.int (6 : Int32)) := g2457.keep K2487 nin0
    clear g2457
    have F2494 : fd6 Z T2467.heap a2432 (.double (FP.i2d p2)) := g2458.keep K2487 nin0
    clear g2458
    have k2495 : own_G p e below E0 T2467 (mkF m 30 #[vi p0, vi p1, vi p2, vi p3, vi (6 : Int32), vr a2432, uu, uu, uu, uu, uu] [(.ref r2486)]) := fun tQ kk => k2466 tQ (st2477.trans kk)
    clear k2466 st2477
    have k2496 : own_G p e below E0 T2467 (mkF m 34 #[vi p0, vi p1, vi p2, vi p3, vi (6 : Int32), vr a2432, vr r2486, uu, uu, uu, uu] [(.ref r2486)]) := by
      intro tQ kk
      refine k2495 tQ ?_
      refine XS.astore X2471.here hx rfl (hb hby at_30) rfl rfl (l' := #[vi p0, vi p1, vi p2, vi p3, vi (6 : Int32), vr a2432, vr r2486, uu, uu, uu, uu]) rfl ?_
      refine XS.aload X2471.here hx rfl (hb hby at_32) rfl rfl ?_
      exact kk
    clear k2495
    have st2497 := fun tQ => own_A.len X2471 hx hZ rfl g2488 (g := (mkF m 34 #[vi p0, vi p1, vi p2, vi p3, vi (6 : Int32), vr a2432, vr r2486, uu, uu, uu, uu] [(.ref r2486)])) rfl rfl (hb hby at_34) tQ
    have k2498 : own_G p e below E0 T2467 (mkF m 35 #[vi p0, vi p1, vi p2, vi p3, vi (6 : Int32), vr a2432, vr r2486, uu, uu, uu, uu] [(.int (6 : Int32))]) := fun tQ kk => k2496 tQ (st2497 _ kk)
    clear k2496 st2497
    have k2499 : own_G p e below E0 T2467 (mkF m 59 #[vi p0, vi p1, vi p2, vi p3, vi (6 : Int32), vr a2432, vr r2486, vj (p1.toInt64), ss, vj (p2.toInt64), ss] [(.long (p2.toInt64)), (.long (p1.toInt64)), (.int (6 : Int32)), (.int (0 : Int32)), (.ref r2486)]) := by
      intro tQ kk
      refine k2498 tQ ?_
      refine XS.iload X2471.here hx rfl (hb hby at_35) rfl ?_
      refine XS.icmpYes X2471.here hx rfl (pc0 := 37) (pc' := 42) rfl (hb hby at_37) rfl (own_ic_eqY (by decide)) (by decide) (by decide) ?_
      refine XS.iloadN X2471.here hx rfl (hb hby at_42) rfl ?_
      refine XT.i2l X2471.here hx rfl (hb hby at_43) rfl ?_
      show Steps p.tables e below (T2467.setTop (mkF m 44 #[vi p0, vi p1, vi p2, vi p3, vi (6 : Int32), vr a2432, vr r2486, uu, uu, uu, uu] [(.long (p1.toInt64))])) tQ
      refine XT.lstore X2471.here hx rfl (hb hby at_44) rfl (l' := #[vi p0, vi p1, vi p2, vi p3, vi (6 : Int32), vr a2432, vr r2486, vj (p1.toInt64), ss, uu, uu]) rfl ?_
      refine XS.iloadN X2471.here hx rfl (hb hby at_46) rfl ?_
      refine XT.i2l X2471.here hx rfl (hb hby at_47) rfl ?_
      refine XT.lstore X2471.here hx rfl (hb hby at_48) rfl (l' := #[vi p0, vi p1, vi p2, vi p3, vi (6 : Int32), vr a2432, vr r2486, vj (p1.toInt64), ss, vj (p2.toInt64), ss]) rfl ?_
      show Steps p.tables e below (T2467.setTop (mkF m 50 #[vi p0, vi p1, vi p2, vi p3, vi (6 : Int32), vr a2432, vr r2486, vj (p1.toInt64), ss, vj (p2.toInt64), ss] [])) tQ
      refine XS.aload X2471.here hx rfl (hb hby at_50) rfl rfl ?_
      refine XS.iconst X2471.here hx rfl (hb hby at_52) ?_
      refine XS.iload X2471.here hx rfl (hb hby at_53) rfl ?_
      refine XT.lload X2471.here hx rfl (hb hby at_55) rfl ?_
      show Steps p.tables e below (T2467.setTop (mkF m 57 #[vi p0, vi p1, vi p2, vi p3, vi (6 : Int32), vr a2432, vr r2486, vj (p1.toInt64), ss, vj (p2.toInt64), ss] [(.long (p1.toInt64)), (.int (6 : Int32)), (.int (0 : Int32)), (.ref r2486)])) tQ
      refine XT.lload X2471.here hx rfl (hb hby at_57) rfl ?_
      exact kk
    clear k2498
    obtain ⟨_, _, ⟨T2500, L2501, kc2502, nc2503⟩, -, X2504, ⟨Lc2505, hQ2506, l2507, y2508, z2509⟩, st2510⟩ := Jvm.LawKit.callS X2471 hx (y := mn13) hown (mvT hZ (tw39 hw)) (mvT hZ (tw40 hw)) (mvT hZ (tw41 hw)) (mvT hZ (tw42 hw)) (by decide) (backOf (W := 0) (rmT l Z a0 hw [] r2486 (0 : Int32) (6 : Int32) (p1.toInt64) (p2.toInt64) ([(.double (FP.dadd (FP.i2d p1) (FP.dmul (FP.i2d (0 : Int32)) (FP.i2d p2)))), (.double (FP.dadd (FP.i2d p1) (FP.dmul (FP.i2d (1 : Int32)) (FP.i2d p2)))), (.double (FP.dadd (FP.i2d p1) (FP.dmul (FP.i2d (2 : Int32)) (FP.i2d p2)))), (.double (FP.dadd (FP.i2d p1) (FP.dmul (FP.i2d (3 : Int32)) (FP.i2d p2)))), (.double (FP.dadd (FP.i2d p1) (FP.dmul (FP.i2d (4 : Int32)) (FP.i2d p2)))), (.double (FP.dadd (FP.i2d p1) (FP.dmul (FP.i2d (5 : Int32)) (FP.i2d p2))))]) (FP.dadd (FP.i2d p1) (FP.dmul (FP.i2d (0 : Int32)) (FP.i2d p2))) (p1.toInt + 0 * p2.toInt) T2467.heap n0 Z2490 g2488 (fun _ => ⟨by decide, rfl, own_el p1 p2 (0 : Int32) 0 rfl (by decide) (by decide), own_le p1 p2 (0 : Int32) 0 rfl (by decide) (by decide)⟩)) hZ (tw42 hw) (tw41 hw) (by decide) (by decide)) (g := (mkF m 59 #[vi p0, vi p1, vi p2, vi p3, vi (6 : Int32), vr a2432, vr r2486, vj (p1.toInt64), ss, vj (p2.toInt64), ss] [(.long (p2.toInt64)), (.long (p1.toInt64)), (.int (6 : Int32)), (.int (0 : Int32)), (.ref r2486)])) rfl (by rw [hml]; rfl) (argsL := [(.ref r2486), (.int (0 : Int32)), (.int (6 : Int32)), (.long (p1.toInt64)), (.long (p2.toInt64))]) (rest := []) (lenOf pd_16 rfl) rfl (by show 2 * 0 + _ ≤ _; exact Nat.le_of_eq rfl) (hb hby at_59) (fun _ _ => ⟨rfl, rfl, (by decide : 2 + 0 ≤ _), (by decide : 9 + 0 ≤ _)⟩)
    dsimp only [Pt.U, Pt.locs, Pt.cells, Pt.slots] at X2504 l2507 y2508 z2509 st2510 hQ2506
    subst l2507 y2508 z2509
    obtain ⟨rfl, N2511, e2512⟩ := hQ2506
    have N2514 := Fr.app N2489 N2511
    have k2515 : own_G p e below E0 T2500 (mkF m 62 #[vi p0, vi p1, vi p2, vi p3, vi (6 : Int32), vr a2432, vr r2486, vj (p1.toInt64), ss, vj (p2.toInt64), ss] [(.int (1 : Int32))]) := fun tQ kk => k2499 tQ (st2510 _ kk)
    clear k2499 st2510
    have k2516 : own_G p e below E0 T2500 (mkF m 74 #[vi p0, vi p1, vi p2, vi p3, vi (6 : Int32), vr a2432, vr r2486, vj (p1.toInt64), ss, vj (p2.toInt64), ss] [(.long (p2.toInt64)), (.long (p1.toInt64)), (.int (6 : Int32)), (.int (1 : Int32)), (.ref r2486)]) := by
      intro tQ kk
      refine k2515 tQ ?_
      refine XS.ifNo X2504.here hx rfl (hb hby at_62) rfl (own_if_eqN (by decide)) ?_
      refine XS.aload X2504.here hx rfl (hb hby at_65) rfl rfl ?_
      refine XS.iconst X2504.here hx rfl (hb hby at_67) ?_
      refine XS.iload X2504.here hx rfl (hb hby at_68) rfl ?_
      show Steps p.tables e below (T2500.setTop (mkF m 70 #[vi p0, vi p1, vi p2, vi p3, vi (6 : Int32), vr a2432, vr r2486, vj (p1.toInt64), ss, vj (p2.toInt64), ss] [(.int (6 : Int32)), (.int (1 : Int32)), (.ref r2486)])) tQ
      refine XT.lload X2504.here hx rfl (hb hby at_70) rfl ?_
      refine XT.lload X2504.here hx rfl (hb hby at_72) rfl ?_
      exact kk
    clear k2515
    obtain ⟨_, _, ⟨T2517, L2518, kc2519, nc2520⟩, -, X2521, ⟨Lc2522, hQ2523, l2524, y2525, z2526⟩, st2527⟩ := Jvm.LawKit.callS X2504 hx (y := mn13) hown (mvT hZ (tw39 hw)) (mvT hZ (tw40 hw)) (mvT hZ (tw41 hw)) (mvT hZ (tw42 hw)) (by decide) (backOf (W := 0) (rmT l Z a0 hw [] r2486 (1 : Int32) (6 : Int32) (p1.toInt64) (p2.toInt64) ([(.double (FP.dadd (FP.i2d p1) (FP.dmul (FP.i2d (0 : Int32)) (FP.i2d p2)))), (.double (FP.dadd (FP.i2d p1) (FP.dmul (FP.i2d (1 : Int32)) (FP.i2d p2)))), (.double (FP.dadd (FP.i2d p1) (FP.dmul (FP.i2d (2 : Int32)) (FP.i2d p2)))), (.double (FP.dadd (FP.i2d p1) (FP.dmul (FP.i2d (3 : Int32)) (FP.i2d p2)))), (.double (FP.dadd (FP.i2d p1) (FP.dmul (FP.i2d (4 : Int32)) (FP.i2d p2)))), (.double (FP.dadd (FP.i2d p1) (FP.dmul (FP.i2d (5 : Int32)) (FP.i2d p2))))]) (FP.dadd (FP.i2d p1) (FP.dmul (FP.i2d (1 : Int32)) (FP.i2d p2))) (p1.toInt + 1 * p2.toInt) T2467.heap n0 Z2490 g2488 (fun _ => ⟨by decide, rfl, own_el p1 p2 (1 : Int32) 1 rfl (by decide) (by decide), own_le p1 p2 (1 : Int32) 1 rfl (by decide) (by decide)⟩)) hZ (tw42 hw) (tw41 hw) (by decide) (by decide)) (g := (mkF m 74 #[vi p0, vi p1, vi p2, vi p3, vi (6 : Int32), vr a2432, vr r2486, vj (p1.toInt64), ss, vj (p2.toInt64), ss] [(.long (p2.toInt64)), (.long (p1.toInt64)), (.int (6 : Int32)), (.int (1 : Int32)), (.ref r2486)])) rfl (by rw [hml]; rfl) (argsL := [(.ref r2486), (.int (1 : Int32)), (.int (6 : Int32)), (.long (p1.toInt64)), (.long (p2.toInt64))]) (rest := []) (lenOf pd_16 rfl) rfl (by show 2 * 0 + _ ≤ _; exact Nat.le_of_eq rfl) (hb hby at_74) (fun _ _ => ⟨rfl, e2512, (by decide : 2 + 0 ≤ _), (by decide : 9 + 0 ≤ _)⟩)
    dsimp only [Pt.U, Pt.locs, Pt.cells, Pt.slots] at X2521 l2524 y2525 z2526 st2527 hQ2523
    subst l2524 y2525 z2526
    obtain ⟨rfl, N2528, e2529⟩ := hQ2523
    have N2531 := Fr.app N2514 N2528
    have k2532 : own_G p e below E0 T2517 (mkF m 77 #[vi p0, vi p1, vi p2, vi p3, vi (6 : Int32), vr a2432, vr r2486, vj (p1.toInt64), ss, vj (p2.toInt64), ss] [(.int (1 : Int32))]) := fun tQ kk => k2516 tQ (st2527 _ kk)
    clear k2516 st2527
    have k2533 : own_G p e below E0 T2517 (mkF m 89 #[vi p0, vi p1, vi p2, vi p3, vi (6 : Int32), vr a2432, vr r2486, vj (p1.toInt64), ss, vj (p2.toInt64), ss] [(.long (p2.toInt64)), (.long (p1.toInt64)), (.int (6 : Int32)), (.int (2 : Int32)), (.ref r2486)]) := by
      intro tQ kk
      refine k2532 tQ ?_
      refine XS.ifNo X2521.here hx rfl (hb hby at_77) rfl (own_if_eqN (by decide)) ?_
      refine XS.aload X2521.here hx rfl (hb hby at_80) rfl rfl ?_
      refine XS.iconst X2521.here hx rfl (hb hby at_82) ?_
      refine XS.iload X2521.here hx rfl (hb hby at_83) rfl ?_
      show Steps p.tables e below (T2517.setTop (mkF m 85 #[vi p0, vi p1, vi p2, vi p3, vi (6 : Int32), vr a2432, vr r2486, vj (p1.toInt64), ss, vj (p2.toInt64), ss] [(.int (6 : Int32)), (.int (2 : Int32)), (.ref r2486)])) tQ
      refine XT.lload X2521.here hx rfl (hb hby at_85) rfl ?_
      refine XT.lload X2521.here hx rfl (hb hby at_87) rfl ?_
      exact kk
    clear k2532
    obtain ⟨_, _, ⟨T2534, L2535, kc2536, nc2537⟩, -, X2538, ⟨Lc2539, hQ2540, l2541, y2542, z2543⟩, st2544⟩ := Jvm.LawKit.callS X2521 hx (y := mn13) hown (mvT hZ (tw39 hw)) (mvT hZ (tw40 hw)) (mvT hZ (tw41 hw)) (mvT hZ (tw42 hw)) (by decide) (backOf (W := 0) (rmT l Z a0 hw [] r2486 (2 : Int32) (6 : Int32) (p1.toInt64) (p2.toInt64) ([(.double (FP.dadd (FP.i2d p1) (FP.dmul (FP.i2d (0 : Int32)) (FP.i2d p2)))), (.double (FP.dadd (FP.i2d p1) (FP.dmul (FP.i2d (1 : Int32)) (FP.i2d p2)))), (.double (FP.dadd (FP.i2d p1) (FP.dmul (FP.i2d (2 : Int32)) (FP.i2d p2)))), (.double (FP.dadd (FP.i2d p1) (FP.dmul (FP.i2d (3 : Int32)) (FP.i2d p2)))), (.double (FP.dadd (FP.i2d p1) (FP.dmul (FP.i2d (4 : Int32)) (FP.i2d p2)))), (.double (FP.dadd (FP.i2d p1) (FP.dmul (FP.i2d (5 : Int32)) (FP.i2d p2))))]) (FP.dadd (FP.i2d p1) (FP.dmul (FP.i2d (2 : Int32)) (FP.i2d p2))) (p1.toInt + 2 * p2.toInt) T2467.heap n0 Z2490 g2488 (fun _ => ⟨by decide, rfl, own_el p1 p2 (2 : Int32) 2 rfl (by decide) (by decide), own_le p1 p2 (2 : Int32) 2 rfl (by decide) (by decide)⟩)) hZ (tw42 hw) (tw41 hw) (by decide) (by decide)) (g := (mkF m 89 #[vi p0, vi p1, vi p2, vi p3, vi (6 : Int32), vr a2432, vr r2486, vj (p1.toInt64), ss, vj (p2.toInt64), ss] [(.long (p2.toInt64)), (.long (p1.toInt64)), (.int (6 : Int32)), (.int (2 : Int32)), (.ref r2486)])) rfl (by rw [hml]; rfl) (argsL := [(.ref r2486), (.int (2 : Int32)), (.int (6 : Int32)), (.long (p1.toInt64)), (.long (p2.toInt64))]) (rest := []) (lenOf pd_16 rfl) rfl (by show 2 * 0 + _ ≤ _; exact Nat.le_of_eq rfl) (hb hby at_89) (fun _ _ => ⟨rfl, e2529, (by decide : 2 + 0 ≤ _), (by decide : 9 + 0 ≤ _)⟩)
    dsimp only [Pt.U, Pt.locs, Pt.cells, Pt.slots] at X2538 l2541 y2542 z2543 st2544 hQ2540
    subst l2541 y2542 z2543
    obtain ⟨rfl, N2545, e2546⟩ := hQ2540
    have N2548 := Fr.app N2531 N2545
    have k2549 : own_G p e below E0 T2534 (mkF m 92 #[vi p0, vi p1, vi p2, vi p3, vi (6 : Int32), vr a2432, vr r2486, vj (p1.toInt64), ss, vj (p2.toInt64), ss] [(.int (1 : Int32))]) := fun tQ kk => k2533 tQ (st2544 _ kk)
    clear k2533 st2544
    have k2550 : own_G p e below E0 T2534 (mkF m 104 #[vi p0, vi p1, vi p2, vi p3, vi (6 : Int32), vr a2432, vr r2486, vj (p1.toInt64), ss, vj (p2.toInt64), ss] [(.long (p2.toInt64)), (.long (p1.toInt64)), (.int (6 : Int32)), (.int (3 : Int32)), (.ref r2486)]) := by
      intro tQ kk
      refine k2549 tQ ?_
      refine XS.ifNo X2538.here hx rfl (hb hby at_92) rfl (own_if_eqN (by decide)) ?_
      refine XS.aload X2538.here hx rfl (hb hby at_95) rfl rfl ?_
      refine XS.iconst X2538.here hx rfl (hb hby at_97) ?_
      refine XS.iload X2538.here hx rfl (hb hby at_98) rfl ?_
      show Steps p.tables e below (T2534.setTop (mkF m 100 #[vi p0, vi p1, vi p2, vi p3, vi (6 : Int32), vr a2432, vr r2486, vj (p1.toInt64), ss, vj (p2.toInt64), ss] [(.int (6 : Int32)), (.int (3 : Int32)), (.ref r2486)])) tQ
      refine XT.lload X2538.here hx rfl (hb hby at_100) rfl ?_
      refine XT.lload X2538.here hx rfl (hb hby at_102) rfl ?_
      exact kk
    clear k2549
    obtain ⟨_, _, ⟨T2551, L2552, kc2553, nc2554⟩, -, X2555, ⟨Lc2556, hQ2557, l2558, y2559, z2560⟩, st2561⟩ := Jvm.LawKit.callS X2538 hx (y := mn13) hown (mvT hZ (tw39 hw)) (mvT hZ (tw40 hw)) (mvT hZ (tw41 hw)) (mvT hZ (tw42 hw)) (by decide) (backOf (W := 0) (rmT l Z a0 hw [] r2486 (3 : Int32) (6 : Int32) (p1.toInt64) (p2.toInt64) ([(.double (FP.dadd (FP.i2d p1) (FP.dmul (FP.i2d (0 : Int32)) (FP.i2d p2)))), (.double (FP.dadd (FP.i2d p1) (FP.dmul (FP.i2d (1 : Int32)) (FP.i2d p2)))), (.double (FP.dadd (FP.i2d p1) (FP.dmul (FP.i2d (2 : Int32)) (FP.i2d p2)))), (.double (FP.dadd (FP.i2d p1) (FP.dmul (FP.i2d (3 : Int32)) (FP.i2d p2)))), (.double (FP.dadd (FP.i2d p1) (FP.dmul (FP.i2d (4 : Int32)) (FP.i2d p2)))), (.double (FP.dadd (FP.i2d p1) (FP.dmul (FP.i2d (5 : Int32)) (FP.i2d p2))))]) (FP.dadd (FP.i2d p1) (FP.dmul (FP.i2d (3 : Int32)) (FP.i2d p2))) (p1.toInt + 3 * p2.toInt) T2467.heap n0 Z2490 g2488 (fun _ => ⟨by decide, rfl, own_el p1 p2 (3 : Int32) 3 rfl (by decide) (by decide), own_le p1 p2 (3 : Int32) 3 rfl (by decide) (by decide)⟩)) hZ (tw42 hw) (tw41 hw) (by decide) (by decide)) (g := (mkF m 104 #[vi p0, vi p1, vi p2, vi p3, vi (6 : Int32), vr a2432, vr r2486, vj (p1.toInt64), ss, vj (p2.toInt64), ss] [(.long (p2.toInt64)), (.long (p1.toInt64)), (.int (6 : Int32)), (.int (3 : Int32)), (.ref r2486)])) rfl (by rw [hml]; rfl) (argsL := [(.ref r2486), (.int (3 : Int32)), (.int (6 : Int32)), (.long (p1.toInt64)), (.long (p2.toInt64))]) (rest := []) (lenOf pd_16 rfl) rfl (by show 2 * 0 + _ ≤ _; exact Nat.le_of_eq rfl) (hb hby at_104) (fun _ _ => ⟨rfl, e2546, (by decide : 2 + 0 ≤ _), (by decide : 9 + 0 ≤ _)⟩)
    dsimp only [Pt.U, Pt.locs, Pt.cells, Pt.slots] at X2555 l2558 y2559 z2560 st2561 hQ2557
    subst l2558 y2559 z2560
    obtain ⟨rfl, N2562, e2563⟩ := hQ2557
    have N2565 := Fr.app N2548 N2562
    have k2566 : own_G p e below E0 T2551 (mkF m 107 #[vi p0, vi p1, vi p2, vi p3, vi (6 : Int32), vr a2432, vr r2486, vj (p1.toInt64), ss, vj (p2.toInt64), ss] [(.int (1 : Int32))]) := fun tQ kk => k2550 tQ (st2561 _ kk)
    clear k2550 st2561
    have k2567 : own_G p e below E0 T2551 (mkF m 119 #[vi p0, vi p1, vi p2, vi p3, vi (6 : Int32), vr a2432, vr r2486, vj (p1.toInt64), ss, vj (p2.toInt64), ss] [(.long (p2.toInt64)), (.long (p1.toInt64)), (.int (6 : Int32)), (.int (4 : Int32)), (.ref r2486)]) := by
      intro tQ kk
      refine k2566 tQ ?_
      refine XS.ifNo X2555.here hx rfl (hb hby at_107) rfl (own_if_eqN (by decide)) ?_
      refine XS.aload X2555.here hx rfl (hb hby at_110) rfl rfl ?_
      refine XS.iconst X2555.here hx rfl (hb hby at_112) ?_
      refine XS.iload X2555.here hx rfl (hb hby at_113) rfl ?_
      show Steps p.tables e below (T2551.setTop (mkF m 115 #[vi p0, vi p1, vi p2, vi p3, vi (6 : Int32), vr a2432, vr r2486, vj (p1.toInt64), ss, vj (p2.toInt64), ss] [(.int (6 : Int32)), (.int (4 : Int32)), (.ref r2486)])) tQ
      refine XT.lload X2555.here hx rfl (hb hby at_115) rfl ?_
      refine XT.lload X2555.here hx rfl (hb hby at_117) rfl ?_
      exact kk
    clear k2566
    obtain ⟨_, _, ⟨T2568, L2569, kc2570, nc2571⟩, -, X2572, ⟨Lc2573, hQ2574, l2575, y2576, z2577⟩, st2578⟩ := Jvm.LawKit.callS X2555 hx (y := mn13) hown (mvT hZ (tw39 hw)) (mvT hZ (tw40 hw)) (mvT hZ (tw41 hw)) (mvT hZ (tw42 hw)) (by decide) (backOf (W := 0) (rmT l Z a0 hw [] r2486 (4 : Int32) (6 : Int32) (p1.toInt64) (p2.toInt64) ([(.double (FP.dadd (FP.i2d p1) (FP.dmul (FP.i2d (0 : Int32)) (FP.i2d p2)))), (.double (FP.dadd (FP.i2d p1) (FP.dmul (FP.i2d (1 : Int32)) (FP.i2d p2)))), (.double (FP.dadd (FP.i2d p1) (FP.dmul (FP.i2d (2 : Int32)) (FP.i2d p2)))), (.double (FP.dadd (FP.i2d p1) (FP.dmul (FP.i2d (3 : Int32)) (FP.i2d p2)))), (.double (FP.dadd (FP.i2d p1) (FP.dmul (FP.i2d (4 : Int32)) (FP.i2d p2)))), (.double (FP.dadd (FP.i2d p1) (FP.dmul (FP.i2d (5 : Int32)) (FP.i2d p2))))]) (FP.dadd (FP.i2d p1) (FP.dmul (FP.i2d (4 : Int32)) (FP.i2d p2))) (p1.toInt + 4 * p2.toInt) T2467.heap n0 Z2490 g2488 (fun _ => ⟨by decide, rfl, own_el p1 p2 (4 : Int32) 4 rfl (by decide) (by decide), own_le p1 p2 (4 : Int32) 4 rfl (by decide) (by decide)⟩)) hZ (tw42 hw) (tw41 hw) (by decide) (by decide)) (g := (mkF m 119 #[vi p0, vi p1, vi p2, vi p3, vi (6 : Int32), vr a2432, vr r2486, vj (p1.toInt64), ss, vj (p2.toInt64), ss] [(.long (p2.toInt64)), (.long (p1.toInt64)), (.int (6 : Int32)), (.int (4 : Int32)), (.ref r2486)])) rfl (by rw [hml]; rfl) (argsL := [(.ref r2486), (.int (4 : Int32)), (.int (6 : Int32)), (.long (p1.toInt64)), (.long (p2.toInt64))]) (rest := []) (lenOf pd_16 rfl) rfl (by show 2 * 0 + _ ≤ _; exact Nat.le_of_eq rfl) (hb hby at_119) (fun _ _ => ⟨rfl, e2563, (by decide : 2 + 0 ≤ _), (by decide : 9 + 0 ≤ _)⟩)
    dsimp only [Pt.U, Pt.locs, Pt.cells, Pt.slots] at X2572 l2575 y2576 z2577 st2578 hQ2574
    subst l2575 y2576 z2577
    obtain ⟨rfl, N2579, e2580⟩ := hQ2574
    have N2582 := Fr.app N2565 N2579
    have k2583 : own_G p e below E0 T2568 (mkF m 122 #[vi p0, vi p1, vi p2, vi p3, vi (6 : Int32), vr a2432, vr r2486, vj (p1.toInt64), ss, vj (p2.toInt64), ss] [(.int (1 : Int32))]) := fun tQ kk => k2567 tQ (st2578 _ kk)
    clear k2567 st2578
    have k2584 : own_G p e below E0 T2568 (mkF m 134 #[vi p0, vi p1, vi p2, vi p3, vi (6 : Int32), vr a2432, vr r2486, vj (p1.toInt64), ss, vj (p2.toInt64), ss] [(.long (p2.toInt64)), (.long (p1.toInt64)), (.int (6 : Int32)), (.int (5 : Int32)), (.ref r2486)]) := by
      intro tQ kk
      refine k2583 tQ ?_
      refine XS.ifNo X2572.here hx rfl (hb hby at_122) rfl (own_if_eqN (by decide)) ?_
      refine XS.aload X2572.here hx rfl (hb hby at_125) rfl rfl ?_
      refine XS.iconst X2572.here hx rfl (hb hby at_127) ?_
      refine XS.iload X2572.here hx rfl (hb hby at_128) rfl ?_
      show Steps p.tables e below (T2568.setTop (mkF m 130 #[vi p0, vi p1, vi p2, vi p3, vi (6 : Int32), vr a2432, vr r2486, vj (p1.toInt64), ss, vj (p2.toInt64), ss] [(.int (6 : Int32)), (.int (5 : Int32)), (.ref r2486)])) tQ
      refine XT.lload X2572.here hx rfl (hb hby at_130) rfl ?_
      refine XT.lload X2572.here hx rfl (hb hby at_132) rfl ?_
      exact kk
    clear k2583
    obtain ⟨_, _, ⟨T2585, L2586, kc2587, nc2588⟩, -, X2589, ⟨Lc2590, hQ2591, l2592, y2593, z2594⟩, st2595⟩ := Jvm.LawKit.callS X2572 hx (y := mn13) hown (mvT hZ (tw39 hw)) (mvT hZ (tw40 hw)) (mvT hZ (tw41 hw)) (mvT hZ (tw42 hw)) (by decide) (backOf (W := 0) (rmT l Z a0 hw [] r2486 (5 : Int32) (6 : Int32) (p1.toInt64) (p2.toInt64) ([(.double (FP.dadd (FP.i2d p1) (FP.dmul (FP.i2d (0 : Int32)) (FP.i2d p2)))), (.double (FP.dadd (FP.i2d p1) (FP.dmul (FP.i2d (1 : Int32)) (FP.i2d p2)))), (.double (FP.dadd (FP.i2d p1) (FP.dmul (FP.i2d (2 : Int32)) (FP.i2d p2)))), (.double (FP.dadd (FP.i2d p1) (FP.dmul (FP.i2d (3 : Int32)) (FP.i2d p2)))), (.double (FP.dadd (FP.i2d p1) (FP.dmul (FP.i2d (4 : Int32)) (FP.i2d p2)))), (.double (FP.dadd (FP.i2d p1) (FP.dmul (FP.i2d (5 : Int32)) (FP.i2d p2))))]) (FP.dadd (FP.i2d p1) (FP.dmul (FP.i2d (5 : Int32)) (FP.i2d p2))) (p1.toInt + 5 * p2.toInt) T2467.heap n0 Z2490 g2488 (fun _ => ⟨by decide, rfl, own_el p1 p2 (5 : Int32) 5 rfl (by decide) (by decide), own_le p1 p2 (5 : Int32) 5 rfl (by decide) (by decide)⟩)) hZ (tw42 hw) (tw41 hw) (by decide) (by decide)) (g := (mkF m 134 #[vi p0, vi p1, vi p2, vi p3, vi (6 : Int32), vr a2432, vr r2486, vj (p1.toInt64), ss, vj (p2.toInt64), ss] [(.long (p2.toInt64)), (.long (p1.toInt64)), (.int (6 : Int32)), (.int (5 : Int32)), (.ref r2486)])) rfl (by rw [hml]; rfl) (argsL := [(.ref r2486), (.int (5 : Int32)), (.int (6 : Int32)), (.long (p1.toInt64)), (.long (p2.toInt64))]) (rest := []) (lenOf pd_16 rfl) rfl (by show 2 * 0 + _ ≤ _; exact Nat.le_of_eq rfl) (hb hby at_134) (fun _ _ => ⟨rfl, e2580, (by decide : 2 + 0 ≤ _), (by decide : 9 + 0 ≤ _)⟩)
    dsimp only [Pt.U, Pt.locs, Pt.cells, Pt.slots] at X2589 l2592 y2593 z2594 st2595 hQ2591
    subst l2592 y2593 z2594
    obtain ⟨rfl, N2596, e2597⟩ := hQ2591
    have N2599 := Fr.app N2582 N2596
    have k2600 : own_G p e below E0 T2585 (mkF m 137 #[vi p0, vi p1, vi p2, vi p3, vi (6 : Int32), vr a2432, vr r2486, vj (p1.toInt64), ss, vj (p2.toInt64), ss] [(.int (1 : Int32))]) := fun tQ kk => k2584 tQ (st2595 _ kk)
    clear k2584 st2595
    have k2601 : own_G p e below E0 T2585 (mkF m 150 #[vi p0, vi p1, vi p2, vi p3, vi (6 : Int32), vr a2432, vr r2486, vj (p1.toInt64), ss, vj (p2.toInt64), ss] [(.long (p2.toInt64)), (.long (p1.toInt64)), (.int (6 : Int32)), (.int (6 : Int32)), (.ref r2486)]) := by
      intro tQ kk
      refine k2600 tQ ?_
      refine XS.ifNo X2589.here hx rfl (hb hby at_137) rfl (own_if_eqN (by decide)) ?_
      refine XS.aload X2589.here hx rfl (hb hby at_140) rfl rfl ?_
      refine XS.bipush X2589.here hx rfl (hb hby at_142) ?_
      refine XS.iload X2589.here hx rfl (hb hby at_144) rfl ?_
      show Steps p.tables e below (T2585.setTop (mkF m 146 #[vi p0, vi p1, vi p2, vi p3, vi (6 : Int32), vr a2432, vr r2486, vj (p1.toInt64), ss, vj (p2.toInt64), ss] [(.int (6 : Int32)), (.int (6 : Int32)), (.ref r2486)])) tQ
      refine XT.lload X2589.here hx rfl (hb hby at_146) rfl ?_
      refine XT.lload X2589.here hx rfl (hb hby at_148) rfl ?_
      exact kk
    clear k2600
    obtain ⟨_, _, ⟨T2602, L2603, kc2604, nc2605⟩, -, X2606, ⟨Lc2607, hQ2608, l2609, y2610, z2611⟩, st2612⟩ := Jvm.LawKit.callS X2589 hx (y := mn13) hown (mvT hZ (tw39 hw)) (mvT hZ (tw40 hw)) (mvT hZ (tw41 hw)) (mvT hZ (tw42 hw)) (by decide) (backOf (W := 0) (rmT l Z a0 hw [] r2486 (6 : Int32) (6 : Int32) (p1.toInt64) (p2.toInt64) ([(.double (FP.dadd (FP.i2d p1) (FP.dmul (FP.i2d (0 : Int32)) (FP.i2d p2)))), (.double (FP.dadd (FP.i2d p1) (FP.dmul (FP.i2d (1 : Int32)) (FP.i2d p2)))), (.double (FP.dadd (FP.i2d p1) (FP.dmul (FP.i2d (2 : Int32)) (FP.i2d p2)))), (.double (FP.dadd (FP.i2d p1) (FP.dmul (FP.i2d (3 : Int32)) (FP.i2d p2)))), (.double (FP.dadd (FP.i2d p1) (FP.dmul (FP.i2d (4 : Int32)) (FP.i2d p2)))), (.double (FP.dadd (FP.i2d p1) (FP.dmul (FP.i2d (5 : Int32)) (FP.i2d p2))))]) 0 0 T2467.heap n0 Z2490 g2488 (fun z => absurd z (by decide))) hZ (tw42 hw) (tw41 hw) (by decide) (by decide)) (g := (mkF m 150 #[vi p0, vi p1, vi p2, vi p3, vi (6 : Int32), vr a2432, vr r2486, vj (p1.toInt64), ss, vj (p2.toInt64), ss] [(.long (p2.toInt64)), (.long (p1.toInt64)), (.int (6 : Int32)), (.int (6 : Int32)), (.ref r2486)])) rfl (by rw [hml]; rfl) (argsL := [(.ref r2486), (.int (6 : Int32)), (.int (6 : Int32)), (.long (p1.toInt64)), (.long (p2.toInt64))]) (rest := []) (lenOf pd_16 rfl) rfl (by show 2 * 0 + _ ≤ _; exact Nat.le_of_eq rfl) (hb hby at_150) (fun _ _ => ⟨rfl, e2597, (by decide : 2 + 0 ≤ _), (by decide : 9 + 0 ≤ _)⟩)
    dsimp only [Pt.U, Pt.locs, Pt.cells, Pt.slots] at X2606 l2609 y2610 z2611 st2612 hQ2608
    subst l2609 y2610 z2611
    obtain ⟨rfl, N2613, e2614⟩ := hQ2608
    have N2616 := Fr.app N2599 N2613
    have k2617 : own_G p e below E0 T2602 (mkF m 153 #[vi p0, vi p1, vi p2, vi p3, vi (6 : Int32), vr a2432, vr r2486, vj (p1.toInt64), ss, vj (p2.toInt64), ss] [(.int (1 : Int32))]) := fun tQ kk => k2601 tQ (st2612 _ kk)
    clear k2601 st2612
    have k2618 : own_G p e below E0 T2602 (mkF m 166 #[vi p0, vi p1, vi p2, vi p3, vi (6 : Int32), vr a2432, vr r2486, vj (p1.toInt64), ss, vj (p2.toInt64), ss] [(.long (p2.toInt64)), (.long (p1.toInt64)), (.int (6 : Int32)), (.int (7 : Int32)), (.ref r2486)]) := by
      intro tQ kk
      refine k2617 tQ ?_
      refine XS.ifNo X2606.here hx rfl (hb hby at_153) rfl (own_if_eqN (by decide)) ?_
      refine XS.aload X2606.here hx rfl (hb hby at_156) rfl rfl ?_
      refine XS.bipush X2606.here hx rfl (hb hby at_158) ?_
      refine XS.iload X2606.here hx rfl (hb hby at_160) rfl ?_
      show Steps p.tables e below (T2602.setTop (mkF m 162 #[vi p0, vi p1, vi p2, vi p3, vi (6 : Int32), vr a2432, vr r2486, vj (p1.toInt64), ss, vj (p2.toInt64), ss] [(.int (6 : Int32)), (.int (7 : Int32)), (.ref r2486)])) tQ
      refine XT.lload X2606.here hx rfl (hb hby at_162) rfl ?_
      refine XT.lload X2606.here hx rfl (hb hby at_164) rfl ?_
      exact kk
    clear k2617
    obtain ⟨_, _, ⟨T2619, L2620, kc2621, nc2622⟩, -, X2623, ⟨Lc2624, hQ2625, l2626, y2627, z2628⟩, st2629⟩ := Jvm.LawKit.callS X2606 hx (y := mn13) hown (mvT hZ (tw39 hw)) (mvT hZ (tw40 hw)) (mvT hZ (tw41 hw)) (mvT hZ (tw42 hw)) (by decide) (backOf (W := 0) (rmT l Z a0 hw [] r2486 (7 : Int32) (6 : Int32) (p1.toInt64) (p2.toInt64) ([(.double (FP.dadd (FP.i2d p1) (FP.dmul (FP.i2d (0 : Int32)) (FP.i2d p2)))), (.double (FP.dadd (FP.i2d p1) (FP.dmul (FP.i2d (1 : Int32)) (FP.i2d p2)))), (.double (FP.dadd (FP.i2d p1) (FP.dmul (FP.i2d (2 : Int32)) (FP.i2d p2)))), (.double (FP.dadd (FP.i2d p1) (FP.dmul (FP.i2d (3 : Int32)) (FP.i2d p2)))), (.double (FP.dadd (FP.i2d p1) (FP.dmul (FP.i2d (4 : Int32)) (FP.i2d p2)))), (.double (FP.dadd (FP.i2d p1) (FP.dmul (FP.i2d (5 : Int32)) (FP.i2d p2))))]) 0 0 T2467.heap n0 Z2490 g2488 (fun z => absurd z (by decide))) hZ (tw42 hw) (tw41 hw) (by decide) (by decide)) (g := (mkF m 166 #[vi p0, vi p1, vi p2, vi p3, vi (6 : Int32), vr a2432, vr r2486, vj (p1.toInt64), ss, vj (p2.toInt64), ss] [(.long (p2.toInt64)), (.long (p1.toInt64)), (.int (6 : Int32)), (.int (7 : Int32)), (.ref r2486)])) rfl (by rw [hml]; rfl) (argsL := [(.ref r2486), (.int (7 : Int32)), (.int (6 : Int32)), (.long (p1.toInt64)), (.long (p2.toInt64))]) (rest := []) (lenOf pd_16 rfl) rfl (by show 2 * 0 + _ ≤ _; exact Nat.le_of_eq rfl) (hb hby at_166) (fun _ _ => ⟨rfl, e2614, (by decide : 2 + 0 ≤ _), (by decide : 9 + 0 ≤ _)⟩)
    dsimp only [Pt.U, Pt.locs, Pt.cells, Pt.slots] at X2623 l2626 y2627 z2628 st2629 hQ2625
    subst l2626 y2627 z2628
    obtain ⟨rfl, N2630, e2631⟩ := hQ2625
    have N2633 := Fr.app N2616 N2630
    have k2634 : own_G p e below E0 T2619 (mkF m 169 #[vi p0, vi p1, vi p2, vi p3, vi (6 : Int32), vr a2432, vr r2486, vj (p1.toInt64), ss, vj (p2.toInt64), ss] [(.int (1 : Int32))]) := fun tQ kk => k2618 tQ (st2629 _ kk)
    clear k2618 st2629
    have k2635 : own_G p e below E0 T2619 (mkF m 177 #[vi p0, vi p1, vi p2, vi p3, vi (6 : Int32), vr a2432, vr r2486, vj (p1.toInt64), ss, vj (p2.toInt64), ss] [(.int (1 : Int32))]) := by
      intro tQ kk
      refine k2634 tQ ?_
      refine XS.ifNo X2623.here hx rfl (hb hby at_169) rfl (own_if_eqN (by decide)) ?_
      refine XS.iconst X2623.here hx rfl (hb hby at_172) ?_
      refine XS.goto X2623.here hx rfl (pc0 := 173) (pc' := 177) rfl (hb hby at_173) (by decide) (by decide) ?_
      exact kk
    clear k2634
    obtain ⟨fs, hr, hrun, hended, hW, hsame⟩ := X2623.leave (v := some (.int (1 : Int32))) (fun h => by rw [Bd.returns] at h; cases h)
    have hrun0 := k2635 _ (retOut X2623 hx Bd.returns (t := .boolean) rfl (Or.inl ⟨rfl, Or.inr (Or.inl rfl), _, rfl⟩) (hb hby at_177) hr)
    subst hE0
    refine ⟨_, _, hrun0, hrun, hended, _, _, rfl, ?_, ⟨_, rfl⟩, hW, hsame.mono (by decide) (by decide)⟩
    show Qrm0 Z p0 p1 p2 p3 h0 n0 _ T2619.heap _
    rw [e2631]
    exact ⟨rfl, N2633⟩
  · skip
    have k2636 : own_G p e below E0 s₁ (mkF m 8 #[vi p0, vi p1, vi p2, vi p3, vi (7 : Int32), uu, uu, uu, uu, uu, uu] []) := by
      intro tQ kk
      refine k1357 tQ ?_
      refine XS.istore X0.here hx rfl (hb hby at_6) rfl (l' := #[vi p0, vi p1, vi p2, vi p3, vi (7 : Int32), uu, uu, uu, uu, uu, uu]) rfl ?_
      exact kk
    clear k1357
    obtain ⟨T2637, h2638, X2639, e2640, E2641, A2642, D2643, -, st2644⟩ := newO X0 hx hZ hown (tw0 hw) (tw1 hw) (tw2 hw) e0 (g := (mkF m 8 #[vi p0, vi p1, vi p2, vi p3, vi (7 : Int32), uu, uu, uu, uu, uu, uu] [])) rfl (hb hby at_8) (by decide) (by decide)
    obtain ⟨a2645, g2646⟩ : ∃ zA : Nat, zA = h0.size := ⟨_, rfl⟩
    rw [← g2646] at A2642 D2643 st2644
    have ge2647 : n0 ≤ a2645 := own_ge_of Z0 g2646
    have Z2648 : n0 ≤ h2638.size := Nat.le_trans Z0 E2641.1
    have F2649 : Fld Z h2638 a2645 "com/example/capwright/capwright/premise/ConstantAmountChange" "yieldRate" "D" (.double (0 : UInt64)) := (D2643 (Or.inr (tw28 hw)) (ty := .double) (by decide))
    have F2650 : Fld Z h2638 a2645 "com/example/capwright/capwright/premise/ConstantAmountChange" "years" "I" (.int (0 : Int32)) := (D2643 (Or.inr (tw30 hw)) (ty := .int) (by decide))
    have F2651 : Fld Z h2638 a2645 "com/example/capwright/capwright/premise/ConstantAmountChange" "step" "D" (.double (0 : UInt64)) := (D2643 (Or.inr (tw32 hw)) (ty := .double) (by decide))
    have k2652 : own_G p e below E0 T2637 (mkF m 11 #[vi p0, vi p1, vi p2, vi p3, vi (7 : Int32), uu, uu, uu, uu, uu, uu] [(.ref a2645)]) := fun tQ kk => k2636 tQ (st2644 _ kk)
    clear k2636 st2644
    have k2653 : own_G p e below E0 T2637 (mkF m 18 #[vi p0, vi p1, vi p2, vi p3, vi (7 : Int32), uu, uu, uu, uu, uu, uu] [(.double (FP.i2d p2)), (.int (7 : Int32)), (.double (FP.i2d p3)), (.ref a2645), (.ref a2645)]) := by
      intro tQ kk
      refine k2652 tQ ?_
      refine XS.dup X2639.here hx rfl (hb hby at_11) rfl rfl ?_
      refine XS.iloadN X2639.here hx rfl (hb hby at_12) rfl ?_
      refine XS.i2dS X2639.here hx rfl (hb hby at_13) rfl rfl ?_
      refine XS.iload X2639.here hx rfl (hb hby at_14) rfl ?_
      show Steps p.tables e below (T2637.setTop (mkF m 16 #[vi p0, vi p1, vi p2, vi p3, vi (7 : Int32), uu, uu, uu, uu, uu, uu] [(.int (7 : Int32)), (.double (FP.i2d p3)), (.ref a2645), (.ref a2645)])) tQ
      refine XS.iloadN X2639.here hx rfl (hb hby at_16) rfl ?_
      refine XS.i2dS X2639.here hx rfl (hb hby at_17) rfl rfl ?_
      exact kk
    clear k2652
    obtain ⟨_, _, ⟨T2654, L2655, kc2656, nc2657⟩, -, X2658, ⟨Lc2659, hQ2660, l2661, y2662, z2663⟩, st2664⟩ := X2639.specialBack hx (y := mn8) rfl hown (mvT hZ (tw3 hw)) (mvT hZ (tw4 hw)) (mvT hZ (tw5 hw)) (by decide) (backOf (W := 1) (rmI l Z a0 hw [] a2645 (FP.i2d p3) (7 : Int32) (FP.i2d p2) h2638 n0 Z2648 A2642 F2649 F2650 F2651 ge2647 (by decide) (Fl.i2d_fin p2)) hZ (tw5 hw) (tw2 hw) (by decide) (by decide)) (g := (mkF m 18 #[vi p0, vi p1, vi p2, vi p3, vi (7 : Int32), uu, uu, uu, uu, uu, uu] [(.double (FP.i2d p2)), (.int (7 : Int32)), (.double (FP.i2d p3)), (.ref a2645), (.ref a2645)])) rfl (by rw [hml]; rfl) (Steps.refl _) (a := a2645) (argsL := [(.double (FP.i2d p3)), (.int (7 : Int32)), (.double (FP.i2d p2))]) (rest := [(.ref a2645)]) (lenOf pd_14 rfl) rfl (by show 2 * 0 + _ ≤ _; exact Nat.le_of_eq rfl) (hb hby at_18) (fun _ _ => ⟨rfl, e2640, (by decide : 1 + 0 ≤ _), (by decide : 3 + 0 ≤ _)⟩)
    dsimp only [Pt.U, Pt.locs, Pt.cells, Pt.slots] at X2658 l2661 y2662 z2663 st2664 hQ2660
    subst l2661 y2662 z2663
    obtain ⟨rfl, N2665, K2668, g2669, g2670, g2671⟩ := hQ2660
    have N2672 := Fr.app N0 N2665
    have Z2673 : n0 ≤ T2654.heap.size := Nat.le_trans Z2648 K2668.1
    have F2674 : xa7 Z T2654.heap a2645 := A2642.keep K2668
    clear A2642
    clear F2649
    clear F2650
    clear F2651
    have k2678 : own_G p e below E0 T2654 (mkF m 21 #[vi p0, vi p1, vi p2, vi p3, vi (7 : Int32), uu, uu, uu, uu, uu, uu] [(.ref a2645)]) := fun tQ kk => k2653 tQ (st2664.trans kk)
    clear k2653 st2664
    have k2679 : own_G p e below E0 T2654 (mkF m 27 #[vi p0, vi p1, vi p2, vi p3, vi (7 : Int32), vr a2645, uu, uu, uu, uu, uu] [(.double (FP.i2d p1)), (.ref a2645)]) := by
      intro tQ kk
      refine k2678 tQ ?_
      refine XS.astore X2658.here hx rfl (hb hby at_21) rfl rfl (l' := #[vi p0, vi p1, vi p2, vi p3, vi (7 : Int32), vr a2645, uu, uu, uu, uu, uu]) rfl ?_
      refine XS.aload X2658.here hx rfl (hb hby at_23) rfl rfl ?_
      refine XS.iloadN X2658.here hx rfl (hb hby at_25) rfl ?_
      refine XS.i2dS X2658.here hx rfl (hb hby at_26) rfl rfl ?_
      exact kk
    clear k2678
    obtain ⟨cq2691, kq2692, qa2693, qb2694, qc2695⟩ := isOf hZ rfl F2674
    obtain ⟨_, _, ⟨T2680, L2681, kc2682, nc2683⟩, -, X2684, ⟨Lc2685, hQ2686, l2687, y2688, z2689⟩, st2690⟩ := X2658.virtualBack hx (y := mn12) (z := mn12) hown (mvT hZ (tw33 hw)) (mvT hZ (tw34 hw)) (notFace_of_selects (args := #[]) (mvT hZ (tw36 hw))) (mvT hZ (tw36 hw)) (mvT hZ (tw35 hw)) (by decide) (backOf (W := 0) (rmV7 l Z a0 hw [] a2645 (FP.i2d p1) (FP.i2d p2) T2654.heap n0 Z2673 g2670 g2671 (own_nn8 p1 p2)) hZ (tw37 hw) (tw2 hw) (by decide) (by decide)) qa2693 qc2695 (g := (mkF m 27 #[vi p0, vi p1, vi p2, vi p3, vi (7 : Int32), vr a2645, uu, uu, uu, uu, uu] [(.double (FP.i2d p1)), (.ref a2645)])) rfl (by rw [hml]; rfl) (Steps.refl _) (argsL := [(.double (FP.i2d p1))]) (rest := []) (lenOf pd_15 rfl) rfl (by show 2 * 0 + _ ≤ _; exact Nat.le_of_eq rfl) (hb hby at_27) (fun _ _ => ⟨rfl, rfl, (by decide : 1 + 1 ≤ _), (by decide : 3 + 7 ≤ _)⟩)
    dsimp only [Pt.U, Pt.locs, Pt.cells, Pt.slots] at X2684 l2687 y2688 z2689 st2690 hQ2686
    subst l2687 y2688 z2689
    obtain ⟨r2699, rfl, N2696, K2700, g2701⟩ := hQ2686
    have N2702 := Fr.app N2672 N2696
    have Z2703 : n0 ≤ T2680.heap.size := Nat.le_trans Z2673 K2700.1
    have F2704 : xa7 Z T2680.heap a2645 := F2674.keep K2700
    clear F2674
    have F2705 : fd4 Z T2680.heap a2645 (.double (FP.i2d p3)) := g2669.keep K2700 nin0
    clear g2669
    have F2706 : fd5 Z T2680.heap a2645 (.int (7 : Int32)) := g2670.keep K2700 nin0
    clear g2670
    have F2707 : fd6 Z T2680.heap a2645 (.double (FP.i2d p2)) := g2671.keep K2700 nin0
    clear g2671
    have k2708 : own_G p e below E0 T2680 (mkF m 30 #[vi p0, vi p1, vi p2, vi p3, vi (7 : Int32), vr a2645, uu, uu, uu, uu, uu] [(.ref r2699)]) := fun tQ kk => k2679 tQ (st2690.trans kk)
    clear k2679 st2690
    have k2709 : own_G p e below E0 T2680 (mkF m 34 #[vi p0, vi p1, vi p2, vi p3, vi (7 : Int32), vr a2645, vr r2699, uu, uu, uu, uu] [(.ref r2699)]) := by
      intro tQ kk
      refine k2708 tQ ?_
      refine XS.astore X2684.here hx rfl (hb hby at_30) rfl rfl (l' := #[vi p0, vi p1, vi p2, vi p3, vi (7 : Int32), vr a2645, vr r2699, uu, uu, uu, uu]) rfl ?_
      refine XS.aload X2684.here hx rfl (hb hby at_32) rfl rfl ?_
      exact kk
    clear k2708
    have st2710 := fun tQ => own_A.len X2684 hx hZ rfl g2701 (g := (mkF m 34 #[vi p0, vi p1, vi p2, vi p3, vi (7 : Int32), vr a2645, vr r2699, uu, uu, uu, uu] [(.ref r2699)])) rfl rfl (hb hby at_34) tQ
    have k2711 : own_G p e below E0 T2680 (mkF m 35 #[vi p0, vi p1, vi p2, vi p3, vi (7 : Int32), vr a2645, vr r2699, uu, uu, uu, uu] [(.int (7 : Int32))]) := fun tQ kk => k2709 tQ (st2710 _ kk)
    clear k2709 st2710
    have k2712 : own_G p e below E0 T2680 (mkF m 59 #[vi p0, vi p1, vi p2, vi p3, vi (7 : Int32), vr a2645, vr r2699, vj (p1.toInt64), ss, vj (p2.toInt64), ss] [(.long (p2.toInt64)), (.long (p1.toInt64)), (.int (7 : Int32)), (.int (0 : Int32)), (.ref r2699)]) := by
      intro tQ kk
      refine k2711 tQ ?_
      refine XS.iload X2684.here hx rfl (hb hby at_35) rfl ?_
      refine XS.icmpYes X2684.here hx rfl (pc0 := 37) (pc' := 42) rfl (hb hby at_37) rfl (own_ic_eqY (by decide)) (by decide) (by decide) ?_
      refine XS.iloadN X2684.here hx rfl (hb hby at_42) rfl ?_
      refine XT.i2l X2684.here hx rfl (hb hby at_43) rfl ?_
      show Steps p.tables e below (T2680.setTop (mkF m 44 #[vi p0, vi p1, vi p2, vi p3, vi (7 : Int32), vr a2645, vr r2699, uu, uu, uu, uu] [(.long (p1.toInt64))])) tQ
      refine XT.lstore X2684.here hx rfl (hb hby at_44) rfl (l' := #[vi p0, vi p1, vi p2, vi p3, vi (7 : Int32), vr a2645, vr r2699, vj (p1.toInt64), ss, uu, uu]) rfl ?_
      refine XS.iloadN X2684.here hx rfl (hb hby at_46) rfl ?_
      refine XT.i2l X2684.here hx rfl (hb hby at_47) rfl ?_
      refine XT.lstore X2684.here hx rfl (hb hby at_48) rfl (l' := #[vi p0, vi p1, vi p2, vi p3, vi (7 : Int32), vr a2645, vr r2699, vj (p1.toInt64), ss, vj (p2.toInt64), ss]) rfl ?_
      show Steps p.tables e below (T2680.setTop (mkF m 50 #[vi p0, vi p1, vi p2, vi p3, vi (7 : Int32), vr a2645, vr r2699, vj (p1.toInt64), ss, vj (p2.toInt64), ss] [])) tQ
      refine XS.aload X2684.here hx rfl (hb hby at_50) rfl rfl ?_
      refine XS.iconst X2684.here hx rfl (hb hby at_52) ?_
      refine XS.iload X2684.here hx rfl (hb hby at_53) rfl ?_
      refine XT.lload X2684.here hx rfl (hb hby at_55) rfl ?_
      show Steps p.tables e below (T2680.setTop (mkF m 57 #[vi p0, vi p1, vi p2, vi p3, vi (7 : Int32), vr a2645, vr r2699, vj (p1.toInt64), ss, vj (p2.toInt64), ss] [(.long (p1.toInt64)), (.int (7 : Int32)), (.int (0 : Int32)), (.ref r2699)])) tQ
      refine XT.lload X2684.here hx rfl (hb hby at_57) rfl ?_
      exact kk
    clear k2711
    obtain ⟨_, _, ⟨T2713, L2714, kc2715, nc2716⟩, -, X2717, ⟨Lc2718, hQ2719, l2720, y2721, z2722⟩, st2723⟩ := Jvm.LawKit.callS X2684 hx (y := mn13) hown (mvT hZ (tw39 hw)) (mvT hZ (tw40 hw)) (mvT hZ (tw41 hw)) (mvT hZ (tw42 hw)) (by decide) (backOf (W := 0) (rmT l Z a0 hw [] r2699 (0 : Int32) (7 : Int32) (p1.toInt64) (p2.toInt64) ([(.double (FP.dadd (FP.i2d p1) (FP.dmul (FP.i2d (0 : Int32)) (FP.i2d p2)))), (.double (FP.dadd (FP.i2d p1) (FP.dmul (FP.i2d (1 : Int32)) (FP.i2d p2)))), (.double (FP.dadd (FP.i2d p1) (FP.dmul (FP.i2d (2 : Int32)) (FP.i2d p2)))), (.double (FP.dadd (FP.i2d p1) (FP.dmul (FP.i2d (3 : Int32)) (FP.i2d p2)))), (.double (FP.dadd (FP.i2d p1) (FP.dmul (FP.i2d (4 : Int32)) (FP.i2d p2)))), (.double (FP.dadd (FP.i2d p1) (FP.dmul (FP.i2d (5 : Int32)) (FP.i2d p2)))), (.double (FP.dadd (FP.i2d p1) (FP.dmul (FP.i2d (6 : Int32)) (FP.i2d p2))))]) (FP.dadd (FP.i2d p1) (FP.dmul (FP.i2d (0 : Int32)) (FP.i2d p2))) (p1.toInt + 0 * p2.toInt) T2680.heap n0 Z2703 g2701 (fun _ => ⟨by decide, rfl, own_el p1 p2 (0 : Int32) 0 rfl (by decide) (by decide), own_le p1 p2 (0 : Int32) 0 rfl (by decide) (by decide)⟩)) hZ (tw42 hw) (tw41 hw) (by decide) (by decide)) (g := (mkF m 59 #[vi p0, vi p1, vi p2, vi p3, vi (7 : Int32), vr a2645, vr r2699, vj (p1.toInt64), ss, vj (p2.toInt64), ss] [(.long (p2.toInt64)), (.long (p1.toInt64)), (.int (7 : Int32)), (.int (0 : Int32)), (.ref r2699)])) rfl (by rw [hml]; rfl) (argsL := [(.ref r2699), (.int (0 : Int32)), (.int (7 : Int32)), (.long (p1.toInt64)), (.long (p2.toInt64))]) (rest := []) (lenOf pd_16 rfl) rfl (by show 2 * 0 + _ ≤ _; exact Nat.le_of_eq rfl) (hb hby at_59) (fun _ _ => ⟨rfl, rfl, (by decide : 2 + 0 ≤ _), (by decide : 10 + 0 ≤ _)⟩)
    dsimp only [Pt.U, Pt.locs, Pt.cells, Pt.slots] at X2717 l2720 y2721 z2722 st2723 hQ2719
    subst l2720 y2721 z2722
    obtain ⟨rfl, N2724, e2725⟩ := hQ2719
    have N2727 := Fr.app N2702 N2724
    have k2728 : own_G p e below E0 T2713 (mkF m 62 #[vi p0, vi p1, vi p2, vi p3, vi (7 : Int32), vr a2645, vr r2699, vj (p1.toInt64), ss, vj (p2.toInt64), ss] [(.int (1 : Int32))]) := fun tQ kk => k2712 tQ (st2723 _ kk)
    clear k2712 st2723
    have k2729 : own_G p e below E0 T2713 (mkF m 74 #[vi p0, vi p1, vi p2, vi p3, vi (7 : Int32), vr a2645, vr r2699, vj (p1.toInt64), ss, vj (p2.toInt64), ss] [(.long (p2.toInt64)), (.long (p1.toInt64)), (.int (7 : Int32)), (.int (1 : Int32)), (.ref r2699)]) := by
      intro tQ kk
      refine k2728 tQ ?_
      refine XS.ifNo X2717.here hx rfl (hb hby at_62) rfl (own_if_eqN (by decide)) ?_
      refine XS.aload X2717.here hx rfl (hb hby at_65) rfl rfl ?_
      refine XS.iconst X2717.here hx rfl (hb hby at_67) ?_
      refine XS.iload X2717.here hx rfl (hb hby at_68) rfl ?_
      show Steps p.tables e below (T2713.setTop (mkF m 70 #[vi p0, vi p1, vi p2, vi p3, vi (7 : Int32), vr a2645, vr r2699, vj (p1.toInt64), ss, vj (p2.toInt64), ss] [(.int (7 : Int32)), (.int (1 : Int32)), (.ref r2699)])) tQ
      refine XT.lload X2717.here hx rfl (hb hby at_70) rfl ?_
      refine XT.lload X2717.here hx rfl (hb hby at_72) rfl ?_
      exact kk
    clear k2728
    obtain ⟨_, _, ⟨T2730, L2731, kc2732, nc2733⟩, -, X2734, ⟨Lc2735, hQ2736, l2737, y2738, z2739⟩, st2740⟩ := Jvm.LawKit.callS X2717 hx (y := mn13) hown (mvT hZ (tw39 hw)) (mvT hZ (tw40 hw)) (mvT hZ (tw41 hw)) (mvT hZ (tw42 hw)) (by decide) (backOf (W := 0) (rmT l Z a0 hw [] r2699 (1 : Int32) (7 : Int32) (p1.toInt64) (p2.toInt64) ([(.double (FP.dadd (FP.i2d p1) (FP.dmul (FP.i2d (0 : Int32)) (FP.i2d p2)))), (.double (FP.dadd (FP.i2d p1) (FP.dmul (FP.i2d (1 : Int32)) (FP.i2d p2)))), (.double (FP.dadd (FP.i2d p1) (FP.dmul (FP.i2d (2 : Int32)) (FP.i2d p2)))), (.double (FP.dadd (FP.i2d p1) (FP.dmul (FP.i2d (3 : Int32)) (FP.i2d p2)))), (.double (FP.dadd (FP.i2d p1) (FP.dmul (FP.i2d (4 : Int32)) (FP.i2d p2)))), (.double (FP.dadd (FP.i2d p1) (FP.dmul (FP.i2d (5 : Int32)) (FP.i2d p2)))), (.double (FP.dadd (FP.i2d p1) (FP.dmul (FP.i2d (6 : Int32)) (FP.i2d p2))))]) (FP.dadd (FP.i2d p1) (FP.dmul (FP.i2d (1 : Int32)) (FP.i2d p2))) (p1.toInt + 1 * p2.toInt) T2680.heap n0 Z2703 g2701 (fun _ => ⟨by decide, rfl, own_el p1 p2 (1 : Int32) 1 rfl (by decide) (by decide), own_le p1 p2 (1 : Int32) 1 rfl (by decide) (by decide)⟩)) hZ (tw42 hw) (tw41 hw) (by decide) (by decide)) (g := (mkF m 74 #[vi p0, vi p1, vi p2, vi p3, vi (7 : Int32), vr a2645, vr r2699, vj (p1.toInt64), ss, vj (p2.toInt64), ss] [(.long (p2.toInt64)), (.long (p1.toInt64)), (.int (7 : Int32)), (.int (1 : Int32)), (.ref r2699)])) rfl (by rw [hml]; rfl) (argsL := [(.ref r2699), (.int (1 : Int32)), (.int (7 : Int32)), (.long (p1.toInt64)), (.long (p2.toInt64))]) (rest := []) (lenOf pd_16 rfl) rfl (by show 2 * 0 + _ ≤ _; exact Nat.le_of_eq rfl) (hb hby at_74) (fun _ _ => ⟨rfl, e2725, (by decide : 2 + 0 ≤ _), (by decide : 10 + 0 ≤ _)⟩)
    dsimp only [Pt.U, Pt.locs, Pt.cells, Pt.slots] at X2734 l2737 y2738 z2739 st2740 hQ2736
    subst l2737 y2738 z2739
    obtain ⟨rfl, N2741, e2742⟩ := hQ2736
    have N2744 := Fr.app N2727 N2741
    have k2745 : own_G p e below E0 T2730 (mkF m 77 #[vi p0, vi p1, vi p2, vi p3, vi (7 : Int32), vr a2645, vr r2699, vj (p1.toInt64), ss, vj (p2.toInt64), ss] [(.int (1 : Int32))]) := fun tQ kk => k2729 tQ (st2740 _ kk)
    clear k2729 st2740
    have k2746 : own_G p e below E0 T2730 (mkF m 89 #[vi p0, vi p1, vi p2, vi p3, vi (7 : Int32), vr a2645, vr r2699, vj (p1.toInt64), ss, vj (p2.toInt64), ss] [(.long (p2.toInt64)), (.long (p1.toInt64)), (.int (7 : Int32)), (.int (2 : Int32)), (.ref r2699)]) := by
      intro tQ kk
      refine k2745 tQ ?_
      refine XS.ifNo X2734.here hx rfl (hb hby at_77) rfl (own_if_eqN (by decide)) ?_
      refine XS.aload X2734.here hx rfl (hb hby at_80) rfl rfl ?_
      refine XS.iconst X2734.here hx rfl (hb hby at_82) ?_
      refine XS.iload X2734.here hx rfl (hb hby at_83) rfl ?_
      show Steps p.tables e below (T2730.setTop (mkF m 85 #[vi p0, vi p1, vi p2, vi p3, vi (7 : Int32), vr a2645, vr r2699, vj (p1.toInt64), ss, vj (p2.toInt64), ss] [(.int (7 : Int32)), (.int (2 : Int32)), (.ref r2699)])) tQ
      refine XT.lload X2734.here hx rfl (hb hby at_85) rfl ?_
      refine XT.lload X2734.here hx rfl (hb hby at_87) rfl ?_
      exact kk
    clear k2745
    obtain ⟨_, _, ⟨T2747, L2748, kc2749, nc2750⟩, -, X2751, ⟨Lc2752, hQ2753, l2754, y2755, z2756⟩, st2757⟩ := Jvm.LawKit.callS X2734 hx (y := mn13) hown (mvT hZ (tw39 hw)) (mvT hZ (tw40 hw)) (mvT hZ (tw41 hw)) (mvT hZ (tw42 hw)) (by decide) (backOf (W := 0) (rmT l Z a0 hw [] r2699 (2 : Int32) (7 : Int32) (p1.toInt64) (p2.toInt64) ([(.double (FP.dadd (FP.i2d p1) (FP.dmul (FP.i2d (0 : Int32)) (FP.i2d p2)))), (.double (FP.dadd (FP.i2d p1) (FP.dmul (FP.i2d (1 : Int32)) (FP.i2d p2)))), (.double (FP.dadd (FP.i2d p1) (FP.dmul (FP.i2d (2 : Int32)) (FP.i2d p2)))), (.double (FP.dadd (FP.i2d p1) (FP.dmul (FP.i2d (3 : Int32)) (FP.i2d p2)))), (.double (FP.dadd (FP.i2d p1) (FP.dmul (FP.i2d (4 : Int32)) (FP.i2d p2)))), (.double (FP.dadd (FP.i2d p1) (FP.dmul (FP.i2d (5 : Int32)) (FP.i2d p2)))), (.double (FP.dadd (FP.i2d p1) (FP.dmul (FP.i2d (6 : Int32)) (FP.i2d p2))))]) (FP.dadd (FP.i2d p1) (FP.dmul (FP.i2d (2 : Int32)) (FP.i2d p2))) (p1.toInt + 2 * p2.toInt) T2680.heap n0 Z2703 g2701 (fun _ => ⟨by decide, rfl, own_el p1 p2 (2 : Int32) 2 rfl (by decide) (by decide), own_le p1 p2 (2 : Int32) 2 rfl (by decide) (by decide)⟩)) hZ (tw42 hw) (tw41 hw) (by decide) (by decide)) (g := (mkF m 89 #[vi p0, vi p1, vi p2, vi p3, vi (7 : Int32), vr a2645, vr r2699, vj (p1.toInt64), ss, vj (p2.toInt64), ss] [(.long (p2.toInt64)), (.long (p1.toInt64)), (.int (7 : Int32)), (.int (2 : Int32)), (.ref r2699)])) rfl (by rw [hml]; rfl) (argsL := [(.ref r2699), (.int (2 : Int32)), (.int (7 : Int32)), (.long (p1.toInt64)), (.long (p2.toInt64))]) (rest := []) (lenOf pd_16 rfl) rfl (by show 2 * 0 + _ ≤ _; exact Nat.le_of_eq rfl) (hb hby at_89) (fun _ _ => ⟨rfl, e2742, (by decide : 2 + 0 ≤ _), (by decide : 10 + 0 ≤ _)⟩)
    dsimp only [Pt.U, Pt.locs, Pt.cells, Pt.slots] at X2751 l2754 y2755 z2756 st2757 hQ2753
    subst l2754 y2755 z2756
    obtain ⟨rfl, N2758, e2759⟩ := hQ2753
    have N2761 := Fr.app N2744 N2758
    have k2762 : own_G p e below E0 T2747 (mkF m 92 #[vi p0, vi p1, vi p2, vi p3, vi (7 : Int32), vr a2645, vr r2699, vj (p1.toInt64), ss, vj (p2.toInt64), ss] [(.int (1 : Int32))]) := fun tQ kk => k2746 tQ (st2757 _ kk)
    clear k2746 st2757
    have k2763 : own_G p e below E0 T2747 (mkF m 104 #[vi p0, vi p1, vi p2, vi p3, vi (7 : Int32), vr a2645, vr r2699, vj (p1.toInt64), ss, vj (p2.toInt64), ss] [(.long (p2.toInt64)), (.long (p1.toInt64)), (.int (7 : Int32)), (.int (3 : Int32)), (.ref r2699)]) := by
      intro tQ kk
      refine k2762 tQ ?_
      refine XS.ifNo X2751.here hx rfl (hb hby at_92) rfl (own_if_eqN (by decide)) ?_
      refine XS.aload X2751.here hx rfl (hb hby at_95) rfl rfl ?_
      refine XS.iconst X2751.here hx rfl (hb hby at_97) ?_
      refine XS.iload X2751.here hx rfl (hb hby at_98) rfl ?_
      show Steps p.tables e below (T2747.setTop (mkF m 100 #[vi p0, vi p1, vi p2, vi p3, vi (7 : Int32), vr a2645, vr r2699, vj (p1.toInt64), ss, vj (p2.toInt64), ss] [(.int (7 : Int32)), (.int (3 : Int32)), (.ref r2699)])) tQ
      refine XT.lload X2751.here hx rfl (hb hby at_100) rfl ?_
      refine XT.lload X2751.here hx rfl (hb hby at_102) rfl ?_
      exact kk
    clear k2762
    obtain ⟨_, _, ⟨T2764, L2765, kc2766, nc2767⟩, -, X2768, ⟨Lc2769, hQ2770, l2771, y2772, z2773⟩, st2774⟩ := Jvm.LawKit.callS X2751 hx (y := mn13) hown (mvT hZ (tw39 hw)) (mvT hZ (tw40 hw)) (mvT hZ (tw41 hw)) (mvT hZ (tw42 hw)) (by decide) (backOf (W := 0) (rmT l Z a0 hw [] r2699 (3 : Int32) (7 : Int32) (p1.toInt64) (p2.toInt64) ([(.double (FP.dadd (FP.i2d p1) (FP.dmul (FP.i2d (0 : Int32)) (FP.i2d p2)))), (.double (FP.dadd (FP.i2d p1) (FP.dmul (FP.i2d (1 : Int32)) (FP.i2d p2)))), (.double (FP.dadd (FP.i2d p1) (FP.dmul (FP.i2d (2 : Int32)) (FP.i2d p2)))), (.double (FP.dadd (FP.i2d p1) (FP.dmul (FP.i2d (3 : Int32)) (FP.i2d p2)))), (.double (FP.dadd (FP.i2d p1) (FP.dmul (FP.i2d (4 : Int32)) (FP.i2d p2)))), (.double (FP.dadd (FP.i2d p1) (FP.dmul (FP.i2d (5 : Int32)) (FP.i2d p2)))), (.double (FP.dadd (FP.i2d p1) (FP.dmul (FP.i2d (6 : Int32)) (FP.i2d p2))))]) (FP.dadd (FP.i2d p1) (FP.dmul (FP.i2d (3 : Int32)) (FP.i2d p2))) (p1.toInt + 3 * p2.toInt) T2680.heap n0 Z2703 g2701 (fun _ => ⟨by decide, rfl, own_el p1 p2 (3 : Int32) 3 rfl (by decide) (by decide), own_le p1 p2 (3 : Int32) 3 rfl (by decide) (by decide)⟩)) hZ (tw42 hw) (tw41 hw) (by decide) (by decide)) (g := (mkF m 104 #[vi p0, vi p1, vi p2, vi p3, vi (7 : Int32), vr a2645, vr r2699, vj (p1.toInt64), ss, vj (p2.toInt64), ss] [(.long (p2.toInt64)), (.long (p1.toInt64)), (.int (7 : Int32)), (.int (3 : Int32)), (.ref r2699)])) rfl (by rw [hml]; rfl) (argsL := [(.ref r2699), (.int (3 : Int32)), (.int (7 : Int32)), (.long (p1.toInt64)), (.long (p2.toInt64))]) (rest := []) (lenOf pd_16 rfl) rfl (by show 2 * 0 + _ ≤ _; exact Nat.le_of_eq rfl) (hb hby at_104) (fun _ _ => ⟨rfl, e2759, (by decide : 2 + 0 ≤ _), (by decide : 10 + 0 ≤ _)⟩)
    dsimp only [Pt.U, Pt.locs, Pt.cells, Pt.slots] at X2768 l2771 y2772 z2773 st2774 hQ2770
    subst l2771 y2772 z2773
    obtain ⟨rfl, N2775, e2776⟩ := hQ2770
    have N2778 := Fr.app N2761 N2775
    have k2779 : own_G p e below E0 T2764 (mkF m 107 #[vi p0, vi p1, vi p2, vi p3, vi (7 : Int32), vr a2645, vr r2699, vj (p1.toInt64), ss, vj (p2.toInt64), ss] [(.int (1 : Int32))]) := fun tQ kk => k2763 tQ (st2774 _ kk)
    clear k2763 st2774
    have k2780 : own_G p e below E0 T2764 (mkF m 119 #[vi p0, vi p1, vi p2, vi p3, vi (7 : Int32), vr a2645, vr r2699, vj (p1.toInt64), ss, vj (p2.toInt64), ss] [(.long (p2.toInt64)), (.long (p1.toInt64)), (.int (7 : Int32)), (.int (4 : Int32)), (.ref r2699)]) := by
      intro tQ kk
      refine k2779 tQ ?_
      refine XS.ifNo X2768.here hx rfl (hb hby at_107) rfl (own_if_eqN (by decide)) ?_
      refine XS.aload X2768.here hx rfl (hb hby at_110) rfl rfl ?_
      refine XS.iconst X2768.here hx rfl (hb hby at_112) ?_
      refine XS.iload X2768.here hx rfl (hb hby at_113) rfl ?_
      show Steps p.tables e below (T2764.setTop (mkF m 115 #[vi p0, vi p1, vi p2, vi p3, vi (7 : Int32), vr a2645, vr r2699, vj (p1.toInt64), ss, vj (p2.toInt64), ss] [(.int (7 : Int32)), (.int (4 : Int32)), (.ref r2699)])) tQ
      refine XT.lload X2768.here hx rfl (hb hby at_115) rfl ?_
      refine XT.lload X2768.here hx rfl (hb hby at_117) rfl ?_
      exact kk
    clear k2779
    obtain ⟨_, _, ⟨T2781, L2782, kc2783, nc2784⟩, -, X2785, ⟨Lc2786, hQ2787, l2788, y2789, z2790⟩, st2791⟩ := Jvm.LawKit.callS X2768 hx (y := mn13) hown (mvT hZ (tw39 hw)) (mvT hZ (tw40 hw)) (mvT hZ (tw41 hw)) (mvT hZ (tw42 hw)) (by decide) (backOf (W := 0) (rmT l Z a0 hw [] r2699 (4 : Int32) (7 : Int32) (p1.toInt64) (p2.toInt64) ([(.double (FP.dadd (FP.i2d p1) (FP.dmul (FP.i2d (0 : Int32)) (FP.i2d p2)))), (.double (FP.dadd (FP.i2d p1) (FP.dmul (FP.i2d (1 : Int32)) (FP.i2d p2)))), (.double (FP.dadd (FP.i2d p1) (FP.dmul (FP.i2d (2 : Int32)) (FP.i2d p2)))), (.double (FP.dadd (FP.i2d p1) (FP.dmul (FP.i2d (3 : Int32)) (FP.i2d p2)))), (.double (FP.dadd (FP.i2d p1) (FP.dmul (FP.i2d (4 : Int32)) (FP.i2d p2)))), (.double (FP.dadd (FP.i2d p1) (FP.dmul (FP.i2d (5 : Int32)) (FP.i2d p2)))), (.double (FP.dadd (FP.i2d p1) (FP.dmul (FP.i2d (6 : Int32)) (FP.i2d p2))))]) (FP.dadd (FP.i2d p1) (FP.dmul (FP.i2d (4 : Int32)) (FP.i2d p2))) (p1.toInt + 4 * p2.toInt) T2680.heap n0 Z2703 g2701 (fun _ => ⟨by decide, rfl, own_el p1 p2 (4 : Int32) 4 rfl (by decide) (by decide), own_le p1 p2 (4 : Int32) 4 rfl (by decide) (by decide)⟩)) hZ (tw42 hw) (tw41 hw) (by decide) (by decide)) (g := (mkF m 119 #[vi p0, vi p1, vi p2, vi p3, vi (7 : Int32), vr a2645, vr r2699, vj (p1.toInt64), ss, vj (p2.toInt64), ss] [(.long (p2.toInt64)), (.long (p1.toInt64)), (.int (7 : Int32)), (.int (4 : Int32)), (.ref r2699)])) rfl (by rw [hml]; rfl) (argsL := [(.ref r2699), (.int (4 : Int32)), (.int (7 : Int32)), (.long (p1.toInt64)), (.long (p2.toInt64))]) (rest := []) (lenOf pd_16 rfl) rfl (by show 2 * 0 + _ ≤ _; exact Nat.le_of_eq rfl) (hb hby at_119) (fun _ _ => ⟨rfl, e2776, (by decide : 2 + 0 ≤ _), (by decide : 10 + 0 ≤ _)⟩)
    dsimp only [Pt.U, Pt.locs, Pt.cells, Pt.slots] at X2785 l2788 y2789 z2790 st2791 hQ2787
    subst l2788 y2789 z2790
    obtain ⟨rfl, N2792, e2793⟩ := hQ2787
    have N2795 := Fr.app N2778 N2792
    have k2796 : own_G p e below E0 T2781 (mkF m 122 #[vi p0, vi p1, vi p2, vi p3, vi (7 : Int32), vr a2645, vr r2699, vj (p1.toInt64), ss, vj (p2.toInt64), ss] [(.int (1 : Int32))]) := fun tQ kk => k2780 tQ (st2791 _ kk)
    clear k2780 st2791
    have k2797 : own_G p e below E0 T2781 (mkF m 134 #[vi p0, vi p1, vi p2, vi p3, vi (7 : Int32), vr a2645, vr r2699, vj (p1.toInt64), ss, vj (p2.toInt64), ss] [(.long (p2.toInt64)), (.long (p1.toInt64)), (.int (7 : Int32)), (.int (5 : Int32)), (.ref r2699)]) := by
      intro tQ kk
      refine k2796 tQ ?_
      refine XS.ifNo X2785.here hx rfl (hb hby at_122) rfl (own_if_eqN (by decide)) ?_
      refine XS.aload X2785.here hx rfl (hb hby at_125) rfl rfl ?_
      refine XS.iconst X2785.here hx rfl (hb hby at_127) ?_
      refine XS.iload X2785.here hx rfl (hb hby at_128) rfl ?_
      show Steps p.tables e below (T2781.setTop (mkF m 130 #[vi p0, vi p1, vi p2, vi p3, vi (7 : Int32), vr a2645, vr r2699, vj (p1.toInt64), ss, vj (p2.toInt64), ss] [(.int (7 : Int32)), (.int (5 : Int32)), (.ref r2699)])) tQ
      refine XT.lload X2785.here hx rfl (hb hby at_130) rfl ?_
      refine XT.lload X2785.here hx rfl (hb hby at_132) rfl ?_
      exact kk
    clear k2796
    obtain ⟨_, _, ⟨T2798, L2799, kc2800, nc2801⟩, -, X2802, ⟨Lc2803, hQ2804, l2805, y2806, z2807⟩, st2808⟩ := Jvm.LawKit.callS X2785 hx (y := mn13) hown (mvT hZ (tw39 hw)) (mvT hZ (tw40 hw)) (mvT hZ (tw41 hw)) (mvT hZ (tw42 hw)) (by decide) (backOf (W := 0) (rmT l Z a0 hw [] r2699 (5 : Int32) (7 : Int32) (p1.toInt64) (p2.toInt64) ([(.double (FP.dadd (FP.i2d p1) (FP.dmul (FP.i2d (0 : Int32)) (FP.i2d p2)))), (.double (FP.dadd (FP.i2d p1) (FP.dmul (FP.i2d (1 : Int32)) (FP.i2d p2)))), (.double (FP.dadd (FP.i2d p1) (FP.dmul (FP.i2d (2 : Int32)) (FP.i2d p2)))), (.double (FP.dadd (FP.i2d p1) (FP.dmul (FP.i2d (3 : Int32)) (FP.i2d p2)))), (.double (FP.dadd (FP.i2d p1) (FP.dmul (FP.i2d (4 : Int32)) (FP.i2d p2)))), (.double (FP.dadd (FP.i2d p1) (FP.dmul (FP.i2d (5 : Int32)) (FP.i2d p2)))), (.double (FP.dadd (FP.i2d p1) (FP.dmul (FP.i2d (6 : Int32)) (FP.i2d p2))))]) (FP.dadd (FP.i2d p1) (FP.dmul (FP.i2d (5 : Int32)) (FP.i2d p2))) (p1.toInt + 5 * p2.toInt) T2680.heap n0 Z2703 g2701 (fun _ => ⟨by decide, rfl, own_el p1 p2 (5 : Int32) 5 rfl (by decide) (by decide), own_le p1 p2 (5 : Int32) 5 rfl (by decide) (by decide)⟩)) hZ (tw42 hw) (tw41 hw) (by decide) (by decide)) (g := (mkF m 134 #[vi p0, vi p1, vi p2, vi p3, vi (7 : Int32), vr a2645, vr r2699, vj (p1.toInt64), ss, vj (p2.toInt64), ss] [(.long (p2.toInt64)), (.long (p1.toInt64)), (.int (7 : Int32)), (.int (5 : Int32)), (.ref r2699)])) rfl (by rw [hml]; rfl) (argsL := [(.ref r2699), (.int (5 : Int32)), (.int (7 : Int32)), (.long (p1.toInt64)), (.long (p2.toInt64))]) (rest := []) (lenOf pd_16 rfl) rfl (by show 2 * 0 + _ ≤ _; exact Nat.le_of_eq rfl) (hb hby at_134) (fun _ _ => ⟨rfl, e2793, (by decide : 2 + 0 ≤ _), (by decide : 10 + 0 ≤ _)⟩)
    dsimp only [Pt.U, Pt.locs, Pt.cells, Pt.slots] at X2802 l2805 y2806 z2807 st2808 hQ2804
    subst l2805 y2806 z2807
    obtain ⟨rfl, N2809, e2810⟩ := hQ2804
    have N2812 := Fr.app N2795 N2809
    have k2813 : own_G p e below E0 T2798 (mkF m 137 #[vi p0, vi p1, vi p2, vi p3, vi (7 : Int32), vr a2645, vr r2699, vj (p1.toInt64), ss, vj (p2.toInt64), ss] [(.int (1 : Int32))]) := fun tQ kk => k2797 tQ (st2808 _ kk)
    clear k2797 st2808
    have k2814 : own_G p e below E0 T2798 (mkF m 150 #[vi p0, vi p1, vi p2, vi p3, vi (7 : Int32), vr a2645, vr r2699, vj (p1.toInt64), ss, vj (p2.toInt64), ss] [(.long (p2.toInt64)), (.long (p1.toInt64)), (.int (7 : Int32)), (.int (6 : Int32)), (.ref r2699)]) := by
      intro tQ kk
      refine k2813 tQ ?_
      refine XS.ifNo X2802.here hx rfl (hb hby at_137) rfl (own_if_eqN (by decide)) ?_
      refine XS.aload X2802.here hx rfl (hb hby at_140) rfl rfl ?_
      refine XS.bipush X2802.here hx rfl (hb hby at_142) ?_
      refine XS.iload X2802.here hx rfl (hb hby at_144) rfl ?_
      show Steps p.tables e below (T2798.setTop (mkF m 146 #[vi p0, vi p1, vi p2, vi p3, vi (7 : Int32), vr a2645, vr r2699, vj (p1.toInt64), ss, vj (p2.toInt64), ss] [(.int (7 : Int32)), (.int (6 : Int32)), (.ref r2699)])) tQ
      refine XT.lload X2802.here hx rfl (hb hby at_146) rfl ?_
      refine XT.lload X2802.here hx rfl (hb hby at_148) rfl ?_
      exact kk
    clear k2813
    obtain ⟨_, _, ⟨T2815, L2816, kc2817, nc2818⟩, -, X2819, ⟨Lc2820, hQ2821, l2822, y2823, z2824⟩, st2825⟩ := Jvm.LawKit.callS X2802 hx (y := mn13) hown (mvT hZ (tw39 hw)) (mvT hZ (tw40 hw)) (mvT hZ (tw41 hw)) (mvT hZ (tw42 hw)) (by decide) (backOf (W := 0) (rmT l Z a0 hw [] r2699 (6 : Int32) (7 : Int32) (p1.toInt64) (p2.toInt64) ([(.double (FP.dadd (FP.i2d p1) (FP.dmul (FP.i2d (0 : Int32)) (FP.i2d p2)))), (.double (FP.dadd (FP.i2d p1) (FP.dmul (FP.i2d (1 : Int32)) (FP.i2d p2)))), (.double (FP.dadd (FP.i2d p1) (FP.dmul (FP.i2d (2 : Int32)) (FP.i2d p2)))), (.double (FP.dadd (FP.i2d p1) (FP.dmul (FP.i2d (3 : Int32)) (FP.i2d p2)))), (.double (FP.dadd (FP.i2d p1) (FP.dmul (FP.i2d (4 : Int32)) (FP.i2d p2)))), (.double (FP.dadd (FP.i2d p1) (FP.dmul (FP.i2d (5 : Int32)) (FP.i2d p2)))), (.double (FP.dadd (FP.i2d p1) (FP.dmul (FP.i2d (6 : Int32)) (FP.i2d p2))))]) (FP.dadd (FP.i2d p1) (FP.dmul (FP.i2d (6 : Int32)) (FP.i2d p2))) (p1.toInt + 6 * p2.toInt) T2680.heap n0 Z2703 g2701 (fun _ => ⟨by decide, rfl, own_el p1 p2 (6 : Int32) 6 rfl (by decide) (by decide), own_le p1 p2 (6 : Int32) 6 rfl (by decide) (by decide)⟩)) hZ (tw42 hw) (tw41 hw) (by decide) (by decide)) (g := (mkF m 150 #[vi p0, vi p1, vi p2, vi p3, vi (7 : Int32), vr a2645, vr r2699, vj (p1.toInt64), ss, vj (p2.toInt64), ss] [(.long (p2.toInt64)), (.long (p1.toInt64)), (.int (7 : Int32)), (.int (6 : Int32)), (.ref r2699)])) rfl (by rw [hml]; rfl) (argsL := [(.ref r2699), (.int (6 : Int32)), (.int (7 : Int32)), (.long (p1.toInt64)), (.long (p2.toInt64))]) (rest := []) (lenOf pd_16 rfl) rfl (by show 2 * 0 + _ ≤ _; exact Nat.le_of_eq rfl) (hb hby at_150) (fun _ _ => ⟨rfl, e2810, (by decide : 2 + 0 ≤ _), (by decide : 10 + 0 ≤ _)⟩)
    dsimp only [Pt.U, Pt.locs, Pt.cells, Pt.slots] at X2819 l2822 y2823 z2824 st2825 hQ2821
    subst l2822 y2823 z2824
    obtain ⟨rfl, N2826, e2827⟩ := hQ2821
    have N2829 := Fr.app N2812 N2826
    have k2830 : own_G p e below E0 T2815 (mkF m 153 #[vi p0, vi p1, vi p2, vi p3, vi (7 : Int32), vr a2645, vr r2699, vj (p1.toInt64), ss, vj (p2.toInt64), ss] [(.int (1 : Int32))]) := fun tQ kk => k2814 tQ (st2825 _ kk)
    clear k2814 st2825
    have k2831 : own_G p e below E0 T2815 (mkF m 166 #[vi p0, vi p1, vi p2, vi p3, vi (7 : Int32), vr a2645, vr r2699, vj (p1.toInt64), ss, vj (p2.toInt64), ss] [(.long (p2.toInt64)), (.long (p1.toInt64)), (.int (7 : Int32)), (.int (7 : Int32)), (.ref r2699)]) := by
      intro tQ kk
      refine k2830 tQ ?_
      refine XS.ifNo X2819.here hx rfl (hb hby at_153) rfl (own_if_eqN (by decide)) ?_
      refine XS.aload X2819.here hx rfl (hb hby at_156) rfl rfl ?_
      refine XS.bipush X2819.here hx rfl (hb hby at_158) ?_
      refine XS.iload X2819.here hx rfl (hb hby at_160) rfl ?_
      show Steps p.tables e below (T2815.setTop (mkF m 162 #[vi p0, vi p1, vi p2, vi p3, vi (7 : Int32), vr a2645, vr r2699, vj (p1.toInt64), ss, vj (p2.toInt64), ss] [(.int (7 : Int32)), (.int (7 : Int32)), (.ref r2699)])) tQ
      refine XT.lload X2819.here hx rfl (hb hby at_162) rfl ?_
      refine XT.lload X2819.here hx rfl (hb hby at_164) rfl ?_
      exact kk
    clear k2830
    obtain ⟨_, _, ⟨T2832, L2833, kc2834, nc2835⟩, -, X2836, ⟨Lc2837, hQ2838, l2839, y2840, z2841⟩, st2842⟩ := Jvm.LawKit.callS X2819 hx (y := mn13) hown (mvT hZ (tw39 hw)) (mvT hZ (tw40 hw)) (mvT hZ (tw41 hw)) (mvT hZ (tw42 hw)) (by decide) (backOf (W := 0) (rmT l Z a0 hw [] r2699 (7 : Int32) (7 : Int32) (p1.toInt64) (p2.toInt64) ([(.double (FP.dadd (FP.i2d p1) (FP.dmul (FP.i2d (0 : Int32)) (FP.i2d p2)))), (.double (FP.dadd (FP.i2d p1) (FP.dmul (FP.i2d (1 : Int32)) (FP.i2d p2)))), (.double (FP.dadd (FP.i2d p1) (FP.dmul (FP.i2d (2 : Int32)) (FP.i2d p2)))), (.double (FP.dadd (FP.i2d p1) (FP.dmul (FP.i2d (3 : Int32)) (FP.i2d p2)))), (.double (FP.dadd (FP.i2d p1) (FP.dmul (FP.i2d (4 : Int32)) (FP.i2d p2)))), (.double (FP.dadd (FP.i2d p1) (FP.dmul (FP.i2d (5 : Int32)) (FP.i2d p2)))), (.double (FP.dadd (FP.i2d p1) (FP.dmul (FP.i2d (6 : Int32)) (FP.i2d p2))))]) 0 0 T2680.heap n0 Z2703 g2701 (fun z => absurd z (by decide))) hZ (tw42 hw) (tw41 hw) (by decide) (by decide)) (g := (mkF m 166 #[vi p0, vi p1, vi p2, vi p3, vi (7 : Int32), vr a2645, vr r2699, vj (p1.toInt64), ss, vj (p2.toInt64), ss] [(.long (p2.toInt64)), (.long (p1.toInt64)), (.int (7 : Int32)), (.int (7 : Int32)), (.ref r2699)])) rfl (by rw [hml]; rfl) (argsL := [(.ref r2699), (.int (7 : Int32)), (.int (7 : Int32)), (.long (p1.toInt64)), (.long (p2.toInt64))]) (rest := []) (lenOf pd_16 rfl) rfl (by show 2 * 0 + _ ≤ _; exact Nat.le_of_eq rfl) (hb hby at_166) (fun _ _ => ⟨rfl, e2827, (by decide : 2 + 0 ≤ _), (by decide : 10 + 0 ≤ _)⟩)
    dsimp only [Pt.U, Pt.locs, Pt.cells, Pt.slots] at X2836 l2839 y2840 z2841 st2842 hQ2838
    subst l2839 y2840 z2841
    obtain ⟨rfl, N2843, e2844⟩ := hQ2838
    have N2846 := Fr.app N2829 N2843
    have k2847 : own_G p e below E0 T2832 (mkF m 169 #[vi p0, vi p1, vi p2, vi p3, vi (7 : Int32), vr a2645, vr r2699, vj (p1.toInt64), ss, vj (p2.toInt64), ss] [(.int (1 : Int32))]) := fun tQ kk => k2831 tQ (st2842 _ kk)
    clear k2831 st2842
    have k2848 : own_G p e below E0 T2832 (mkF m 177 #[vi p0, vi p1, vi p2, vi p3, vi (7 : Int32), vr a2645, vr r2699, vj (p1.toInt64), ss, vj (p2.toInt64), ss] [(.int (1 : Int32))]) := by
      intro tQ kk
      refine k2847 tQ ?_
      refine XS.ifNo X2836.here hx rfl (hb hby at_169) rfl (own_if_eqN (by decide)) ?_
      refine XS.iconst X2836.here hx rfl (hb hby at_172) ?_
      refine XS.goto X2836.here hx rfl (pc0 := 173) (pc' := 177) rfl (hb hby at_173) (by decide) (by decide) ?_
      exact kk
    clear k2847
    obtain ⟨fs, hr, hrun, hended, hW, hsame⟩ := X2836.leave (v := some (.int (1 : Int32))) (fun h => by rw [Bd.returns] at h; cases h)
    have hrun0 := k2848 _ (retOut X2836 hx Bd.returns (t := .boolean) rfl (Or.inl ⟨rfl, Or.inr (Or.inl rfl), _, rfl⟩) (hb hby at_177) hr)
    subst hE0
    refine ⟨_, _, hrun0, hrun, hended, _, _, rfl, ?_, ⟨_, rfl⟩, hW, hsame.mono (by decide) (by decide)⟩
    show Qrm0 Z p0 p1 p2 p3 h0 n0 _ T2832.heap _
    rw [e2844]
    exact ⟨rfl, N2846⟩
  · skip
    have k2849 : own_G p e below E0 s₁ (mkF m 8 #[vi p0, vi p1, vi p2, vi p3, vi (8 : Int32), uu, uu, uu, uu, uu, uu] []) := by
      intro tQ kk
      refine k1357 tQ ?_
      refine XS.istore X0.here hx rfl (hb hby at_6) rfl (l' := #[vi p0, vi p1, vi p2, vi p3, vi (8 : Int32), uu, uu, uu, uu, uu, uu]) rfl ?_
      exact kk
    clear k1357
    obtain ⟨T2850, h2851, X2852, e2853, E2854, A2855, D2856, -, st2857⟩ := newO X0 hx hZ hown (tw0 hw) (tw1 hw) (tw2 hw) e0 (g := (mkF m 8 #[vi p0, vi p1, vi p2, vi p3, vi (8 : Int32), uu, uu, uu, uu, uu, uu] [])) rfl (hb hby at_8) (by decide) (by decide)
    obtain ⟨a2858, g2859⟩ : ∃ zA : Nat, zA = h0.size := ⟨_, rfl⟩
    rw [← g2859] at A2855 D2856 st2857
    have ge2860 : n0 ≤ a2858 := own_ge_of Z0 g2859
    have Z2861 : n0 ≤ h2851.size := Nat.le_trans Z0 E2854.1
    have F2862 : Fld Z h2851 a2858 "com/example/capwright/capwright/premise/ConstantAmountChange" "yieldRate" "D" (.double (0 : UInt64)) := (D2856 (Or.inr (tw28 hw)) (ty := .double) (by decide))
    have F2863 : Fld Z h2851 a2858 "com/example/capwright/capwright/premise/ConstantAmountChange" "years" "I" (.int (0 : Int32)) := (D2856 (Or.inr (tw30 hw)) (ty := .int) (by decide))
    have F2864 : Fld Z h2851 a2858 "com/example/capwright/capwright/premise/ConstantAmountChange" "step" "D" (.double (0 : UInt64)) := (D2856 (Or.inr (tw32 hw)) (ty := .double) (by decide))
    have k2865 : own_G p e below E0 T2850 (mkF m 11 #[vi p0, vi p1, vi p2, vi p3, vi (8 : Int32), uu, uu, uu, uu, uu, uu] [(.ref a2858)]) := fun tQ kk => k2849 tQ (st2857 _ kk)
    clear k2849 st2857
    have k2866 : own_G p e below E0 T2850 (mkF m 18 #[vi p0, vi p1, vi p2, vi p3, vi (8 : Int32), uu, uu, uu, uu, uu, uu] [(.double (FP.i2d p2)), (.int (8 : Int32)), (.double (FP.i2d p3)), (.ref a2858), (.ref a2858)]) := by
      intro tQ kk
      refine k2865 tQ ?_
      refine XS.dup X2852.here hx rfl (hb hby at_11) rfl rfl ?_
      refine XS.iloadN X2852.here hx rfl (hb hby at_12) rfl ?_
      refine XS.i2dS X2852.here hx rfl (hb hby at_13) rfl rfl ?_
      refine XS.iload X2852.here hx rfl (hb hby at_14) rfl ?_
      show Steps p.tables e below (T2850.setTop (mkF m 16 #[vi p0, vi p1, vi p2, vi p3, vi (8 : Int32), uu, uu, uu, uu, uu, uu] [(.int (8 : Int32)), (.double (FP.i2d p3)), (.ref a2858), (.ref a2858)])) tQ
      refine XS.iloadN X2852.here hx rfl (hb hby at_16) rfl ?_
      refine XS.i2dS X2852.here hx rfl (hb hby at_17) rfl rfl ?_
      exact kk
    clear k2865
    obtain ⟨_, _, ⟨T2867, L2868, kc2869, nc2870⟩, -, X2871, ⟨Lc2872, hQ2873, l2874, y2875, z2876⟩, st2877⟩ := X2852.specialBack hx (y := mn8) rfl hown (mvT hZ (tw3 hw)) (mvT hZ (tw4 hw)) (mvT hZ (tw5 hw)) (by decide) (backOf (W := 1) (rmI l Z a0 hw [] a2858 (FP.i2d p3) (8 : Int32) (FP.i2d p2) h2851 n0 Z2861 A2855 F2862 F2863 F2864 ge2860 (by decide) (Fl.i2d_fin p2)) hZ (tw5 hw) (tw2 hw) (by decide) (by decide)) (g := (mkF m 18 #[vi p0, vi p1, vi p2, vi p3, vi (8 : Int32), uu, uu, uu, uu, uu, uu] [(.double (FP.i2d p2)), (.int (8 : Int32)), (.double (FP.i2d p3)), (.ref a2858), (.ref a2858)])) rfl (by rw [hml]; rfl) (Steps.refl _) (a := a2858) (argsL := [(.double (FP.i2d p3)), (.int (8 : Int32)), (.double (FP.i2d p2))]) (rest := [(.ref a2858)]) (lenOf pd_14 rfl) rfl (by show 2 * 0 + _ ≤ _; exact Nat.le_of_eq rfl) (hb hby at_18) (fun _ _ => ⟨rfl, e2853, (by decide : 1 + 0 ≤ _), (by decide : 3 + 0 ≤ _)⟩)
    dsimp only [Pt.U, Pt.locs, Pt.cells, Pt.slots] at X2871 l2874 y2875 z2876 st2877 hQ2873
    subst l2874 y2875 z2876
    obtain ⟨rfl, N2878, K2881, g2882, g2883, g2884⟩ := hQ2873
    have N2885 := Fr.app N0 N2878
    have Z2886 : n0 ≤ T2867.heap.size := Nat.le_trans Z2861 K2881.1
    have F2887 : xa7 Z T2867.heap a2858 := A2855.keep K2881
    clear A2855
    clear F2862
    clear F2863
    clear F2864
    have k2891 : own_G p e below E0 T2867 (mkF m 21 #[vi p0, vi p1, vi p2, vi p3, vi (8 : Int32), uu, uu, uu, uu, uu, uu] [(.ref a2858)]) := fun tQ kk => k2866 tQ (st2877.trans kk)
    clear k2866 st2877
    have k2892 : own_G p e below E0 T2867 (mkF m 27 #[vi p0, vi p1, vi p2, vi p3, vi (8 : Int32), vr a2858, uu, uu, uu, uu, uu] [(.double (FP.i2d p1)), (.ref a2858)]) := by
      intro tQ kk
      refine k2891 tQ ?_
      refine XS.astore X2871.here hx rfl (hb hby at_21) rfl rfl (l' := #[vi p0, vi p1, vi p2, vi p3, vi (8 : Int32), vr a2858, uu, uu, uu, uu, uu]) rfl ?_
      refine XS.aload X2871.here hx rfl (hb hby at_23) rfl rfl ?_
      refine XS.iloadN X2871.here hx rfl (hb hby at_25) rfl ?_
      refine XS.i2dS X2871.here hx rfl (hb hby at_26) rfl rfl ?_
      exact kk
    clear k2891
    obtain ⟨cq2904, kq2905, qa2906, qb2907, qc2908⟩ := isOf hZ rfl F2887
    obtain ⟨_, _, ⟨T2893, L2894, kc2895, nc2896⟩, -, X2897, ⟨Lc2898, hQ2899, l2900, y2901, z2902⟩, st2903⟩ := X2871.virtualBack hx (y := mn12) (z := mn12) hown (mvT hZ (tw33 hw)) (mvT hZ (tw34 hw)) (notFace_of_selects (args := #[]) (mvT hZ (tw36 hw))) (mvT hZ (tw36 hw)) (mvT hZ (tw35 hw)) (by decide) (backOf (W := 0) (rmV8 l Z a0 hw [] a2858 (FP.i2d p1) (FP.i2d p2) T2867.heap n0 Z2886 g2883 g2884 (own_nn8 p1 p2)) hZ (tw37 hw) (tw2 hw) (by decide) (by decide)) qa2906 qc2908 (g := (mkF m 27 #[vi p0, vi p1, vi p2, vi p3, vi (8 : Int32), vr a2858, uu, uu, uu, uu, uu] [(.double (FP.i2d p1)), (.ref a2858)])) rfl (by rw [hml]; rfl) (Steps.refl _) (argsL := [(.double (FP.i2d p1))]) (rest := []) (lenOf pd_15 rfl) rfl (by show 2 * 0 + _ ≤ _; exact Nat.le_of_eq rfl) (hb hby at_27) (fun _ _ => ⟨rfl, rfl, (by decide : 1 + 1 ≤ _), (by decide : 3 + 8 ≤ _)⟩)
    dsimp only [Pt.U, Pt.locs, Pt.cells, Pt.slots] at X2897 l2900 y2901 z2902 st2903 hQ2899
    subst l2900 y2901 z2902
    obtain ⟨r2912, rfl, N2909, K2913, g2914⟩ := hQ2899
    have N2915 := Fr.app N2885 N2909
    have Z2916 : n0 ≤ T2893.heap.size := Nat.le_trans Z2886 K2913.1
    have F2917 : xa7 Z T2893.heap a2858 := F2887.keep K2913
    clear F2887
    have F2918 : fd4 Z T2893.heap a2858 (.double (FP.i2d p3)) := g2882.keep K2913 nin0
    clear g2882
    have F2919 : fd5 Z T2893.heap a2858 (.int (8 : Int32)) := g2883.keep K2913 nin0
    clear g2883
    have F2920 : fd6 Z T2893.heap a2858 (.double (FP.i2d p2)) := g2884.keep K2913 nin0
    clear g2884
    have k2921 : own_G p e below E0 T2893 (mkF m 30 #[vi p0, vi p1, vi p2, vi p3, vi (8 : Int32), vr a2858, uu, uu, uu, uu, uu] [(.ref r2912)]) := fun tQ kk => k2892 tQ (st2903.trans kk)
    clear k2892 st2903
    have k2922 : own_G p e below E0 T2893 (mkF m 34 #[vi p0, vi p1, vi p2, vi p3, vi (8 : Int32), vr a2858, vr r2912, uu, uu, uu, uu] [(.ref r2912)]) := by
      intro tQ kk
      refine k2921 tQ ?_
      refine XS.astore X2897.here hx rfl (hb hby at_30) rfl rfl (l' := #[vi p0, vi p1, vi p2, vi p3, vi (8 : Int32), vr a2858, vr r2912, uu, uu, uu, uu]) rfl ?_
      refine XS.aload X2897.here hx rfl (hb hby at_32) rfl rfl ?_
      exact kk
    clear k2921
    have st2923 := fun tQ => own_A.len X2897 hx hZ rfl g2914 (g := (mkF m 34 #[vi p0, vi p1, vi p2, vi p3, vi (8 : Int32), vr a2858, vr r2912, uu, uu, uu, uu] [(.ref r2912)])) rfl rfl (hb hby at_34) tQ
    have k2924 : own_G p e below E0 T2893 (mkF m 35 #[vi p0, vi p1, vi p2, vi p3, vi (8 : Int32), vr a2858, vr r2912, uu, uu, uu, uu] [(.int (8 : Int32))]) := fun tQ kk => k2922 tQ (st2923 _ kk)
    clear k2922 st2923
    have k2925 : own_G p e below E0 T2893 (mkF m 59 #[vi p0, vi p1, vi p2, vi p3, vi (8 : Int32), vr a2858, vr r2912, vj (p1.toInt64), ss, vj (p2.toInt64), ss] [(.long (p2.toInt64)), (.long (p1.toInt64)), (.int (8 : Int32)), (.int (0 : Int32)), (.ref r2912)]) := by
      intro tQ kk
      refine k2924 tQ ?_
      refine XS.iload X2897.here hx rfl (hb hby at_35) rfl ?_
      refine XS.icmpYes X2897.here hx rfl (pc0 := 37) (pc' := 42) rfl (hb hby at_37) rfl (own_ic_eqY (by decide)) (by decide) (by decide) ?_
      refine XS.iloadN X2897.here hx rfl (hb hby at_42) rfl ?_
      refine XT.i2l X2897.here hx rfl (hb hby at_43) rfl ?_
      show Steps p.tables e below (T2893.setTop (mkF m 44 #[vi p0, vi p1, vi p2, vi p3, vi (8 : Int32), vr a2858, vr r2912, uu, uu, uu, uu] [(.long (p1.toInt64))])) tQ
      refine XT.lstore X2897.here hx rfl (hb hby at_44) rfl (l' := #[vi p0, vi p1, vi p2, vi p3, vi (8 : Int32), vr a2858, vr r2912, vj (p1.toInt64), ss, uu, uu]) rfl ?_
      refine XS.iloadN X2897.here hx rfl (hb hby at_46) rfl ?_
      refine XT.i2l X2897.here hx rfl (hb hby at_47) rfl ?_
      refine XT.lstore X2897.here hx rfl (hb hby at_48) rfl (l' := #[vi p0, vi p1, vi p2, vi p3, vi (8 : Int32), vr a2858, vr r2912, vj (p1.toInt64), ss, vj (p2.toInt64), ss]) rfl ?_
      show Steps p.tables e below (T2893.setTop (mkF m 50 #[vi p0, vi p1, vi p2, vi p3, vi (8 : Int32), vr a2858, vr r2912, vj (p1.toInt64), ss, vj (p2.toInt64), ss] [])) tQ
      refine XS.aload X2897.here hx rfl (hb hby at_50) rfl rfl ?_
      refine XS.iconst X2897.here hx rfl (hb hby at_52) ?_
      refine XS.iload X2897.here hx rfl (hb hby at_53) rfl ?_
      refine XT.lload X2897.here hx rfl (hb hby at_55) rfl ?_
      show Steps p.tables e below (T2893.setTop (mkF m 57 #[vi p0, vi p1, vi p2, vi p3, vi (8 : Int32), vr a2858, vr r2912, vj (p1.toInt64), ss, vj (p2.toInt64), ss] [(.long (p1.toInt64)), (.int (8 : Int32)), (.int (0 : Int32)), (.ref r2912)])) tQ
      refine XT.lload X2897.here hx rfl (hb hby at_57) rfl ?_
      exact kk
    clear k2924
    obtain ⟨_, _, ⟨T2926, L2927, kc2928, nc2929⟩, -, X2930, ⟨Lc2931, hQ2932, l2933, y2934, z2935⟩, st2936⟩ := Jvm.LawKit.callS X2897 hx (y := mn13) hown (mvT hZ (tw39 hw)) (mvT hZ (tw40 hw)) (mvT hZ (tw41 hw)) (mvT hZ (tw42 hw)) (by decide) (backOf (W := 0) (rmT l Z a0 hw [] r2912 (0 : Int32) (8 : Int32) (p1.toInt64) (p2.toInt64) ([(.double (FP.dadd (FP.i2d p1) (FP.dmul (FP.i2d (0 : Int32)) (FP.i2d p2)))), (.double (FP.dadd (FP.i2d p1) (FP.dmul (FP.i2d (1 : Int32)) (FP.i2d p2)))), (.double (FP.dadd (FP.i2d p1) (FP.dmul (FP.i2d (2 : Int32)) (FP.i2d p2)))), (.double (FP.dadd (FP.i2d p1) (FP.dmul (FP.i2d (3 : Int32)) (FP.i2d p2)))), (.double (FP.dadd (FP.i2d p1) (FP.dmul (FP.i2d (4 : Int32)) (FP.i2d p2)))), (.double (FP.dadd (FP.i2d p1) (FP.dmul (FP.i2d (5 : Int32)) (FP.i2d p2)))), (.double (FP.dadd (FP.i2d p1) (FP.dmul (FP.i2d (6 : Int32)) (FP.i2d p2)))), (.double (FP.dadd (FP.i2d p1) (FP.dmul (FP.i2d (7 : Int32)) (FP.i2d p2))))]) (FP.dadd (FP.i2d p1) (FP.dmul (FP.i2d (0 : Int32)) (FP.i2d p2))) (p1.toInt + 0 * p2.toInt) T2893.heap n0 Z2916 g2914 (fun _ => ⟨by decide, rfl, own_el p1 p2 (0 : Int32) 0 rfl (by decide) (by decide), own_le p1 p2 (0 : Int32) 0 rfl (by decide) (by decide)⟩)) hZ (tw42 hw) (tw41 hw) (by decide) (by decide)) (g := (mkF m 59 #[vi p0, vi p1, vi p2, vi p3, vi (8 : Int32), vr a2858, vr r2912, vj (p1.toInt64), ss, vj (p2.toInt64), ss] [(.long (p2.toInt64)), (.long (p1.toInt64)), (.int (8 : Int32)), (.int (0 : Int32)), (.ref r2912)])) rfl (by rw [hml]; rfl) (argsL := [(.ref r2912), (.int (0 : Int32)), (.int (8 : Int32)), (.long (p1.toInt64)), (.long (p2.toInt64))]) (rest := []) (lenOf pd_16 rfl) rfl (by show 2 * 0 + _ ≤ _; exact Nat.le_of_eq rfl) (hb hby at_59) (fun _ _ => ⟨rfl, rfl, (by decide : 2 + 0 ≤ _), (by decide : 11 + 0 ≤ _)⟩)
    dsimp only [Pt.U, Pt.locs, Pt.cells, Pt.slots] at X2930 l2933 y2934 z2935 st2936 hQ2932
    subst l2933 y2934 z2935
    obtain ⟨rfl, N2937, e2938⟩ := hQ2932
    have N2940 := Fr.app N2915 N2937
    have k2941 : own_G p e below E0 T2926 (mkF m 62 #[vi p0, vi p1, vi p2, vi p3, vi (8 : Int32), vr a2858, vr r2912, vj (p1.toInt64), ss, vj (p2.toInt64), ss] [(.int (1 : Int32))]) := fun tQ kk => k2925 tQ (st2936 _ kk)
    clear k2925 st2936
    have k2942 : own_G p e below E0 T2926 (mkF m 74 #[vi p0, vi p1, vi p2, vi p3, vi (8 : Int32), vr a2858, vr r2912, vj (p1.toInt64), ss, vj (p2.toInt64), ss] [(.long (p2.toInt64)), (.long (p1.toInt64)), (.int (8 : Int32)), (.int (1 : Int32)), (.ref r2912)]) := by
      intro tQ kk
      refine k2941 tQ ?_
      refine XS.ifNo X2930.here hx rfl (hb hby at_62) rfl (own_if_eqN (by decide)) ?_
      refine XS.aload X2930.here hx rfl (hb hby at_65) rfl rfl ?_
      refine XS.iconst X2930.here hx rfl (hb hby at_67) ?_
      refine XS.iload X2930.here hx rfl (hb hby at_68) rfl ?_
      show Steps p.tables e below (T2926.setTop (mkF m 70 #[vi p0, vi p1, vi p2, vi p3, vi (8 : Int32), vr a2858, vr r2912, vj (p1.toInt64), ss, vj (p2.toInt64), ss] [(.int (8 : Int32)), (.int (1 : Int32)), (.ref r2912)])) tQ
      refine XT.lload X2930.here hx rfl (hb hby at_70) rfl ?_
      refine XT.lload X2930.here hx rfl (hb hby at_72) rfl ?_
      exact kk
    clear k2941
    obtain ⟨_, _, ⟨T2943, L2944, kc2945, nc2946⟩, -, X2947, ⟨Lc2948, hQ2949, l2950, y2951, z2952⟩, st2953⟩ := Jvm.LawKit.callS X2930 hx (y := mn13) hown (mvT hZ (tw39 hw)) (mvT hZ (tw40 hw)) (mvT hZ (tw41 hw)) (mvT hZ (tw42 hw)) (by decide) (backOf (W := 0) (rmT l Z a0 hw [] r2912 (1 : Int32) (8 : Int32) (p1.toInt64) (p2.toInt64) ([(.double (FP.dadd (FP.i2d p1) (FP.dmul (FP.i2d (0 : Int32)) (FP.i2d p2)))), (.double (FP.dadd (FP.i2d p1) (FP.dmul (FP.i2d (1 : Int32)) (FP.i2d p2)))), (.double (FP.dadd (FP.i2d p1) (FP.dmul (FP.i2d (2 : Int32)) (FP.i2d p2)))), (.double (FP.dadd (FP.i2d p1) (FP.dmul (FP.i2d (3 : Int32)) (FP.i2d p2)))), (.double (FP.dadd (FP.i2d p1) (FP.dmul (FP.i2d (4 : Int32)) (FP.i2d p2)))), (.double (FP.dadd (FP.i2d p1) (FP.dmul (FP.i2d (5 : Int32)) (FP.i2d p2)))), (.double (FP.dadd (FP.i2d p1) (FP.dmul (FP.i2d (6 : Int32)) (FP.i2d p2)))), (.double (FP.dadd (FP.i2d p1) (FP.dmul (FP.i2d (7 : Int32)) (FP.i2d p2))))]) (FP.dadd (FP.i2d p1) (FP.dmul (FP.i2d (1 : Int32)) (FP.i2d p2))) (p1.toInt + 1 * p2.toInt) T2893.heap n0 Z2916 g2914 (fun _ => ⟨by decide, rfl, own_el p1 p2 (1 : Int32) 1 rfl (by decide) (by decide), own_le p1 p2 (1 : Int32) 1 rfl (by decide) (by decide)⟩)) hZ (tw42 hw) (tw41 hw) (by decide) (by decide)) (g := (mkF m 74 #[vi p0, vi p1, vi p2, vi p3, vi (8 : Int32), vr a2858, vr r2912, vj (p1.toInt64), ss, vj (p2.toInt64), ss] [(.long (p2.toInt64)), (.long (p1.toInt64)), (.int (8 : Int32)), (.int (1 : Int32)), (.ref r2912)])) rfl (by rw [hml]; rfl) (argsL := [(.ref r2912), (.int (1 : Int32)), (.int (8 : Int32)), (.long (p1.toInt64)), (.long (p2.toInt64))]) (rest := []) (lenOf pd_16 rfl) rfl (by show 2 * 0 + _ ≤ _; exact Nat.le_of_eq rfl) (hb hby at_74) (fun _ _ => ⟨rfl, e2938, (by decide : 2 + 0 ≤ _), (by decide : 11 + 0 ≤ _)⟩)
    dsimp only [Pt.U, Pt.locs, Pt.cells, Pt.slots] at X2947 l2950 y2951 z2952 st2953 hQ2949
    subst l2950 y2951 z2952
    obtain ⟨rfl, N2954, e2955⟩ := hQ2949
    have N2957 := Fr.app N2940 N2954
    have k2958 : own_G p e below E0 T2943 (mkF m 77 #[vi p0, vi p1, vi p2, vi p3, vi (8 : Int32), vr a2858, vr r2912, vj (p1.toInt64), ss, vj (p2.toInt64), ss] [(.int (1 : Int32))]) := fun tQ kk => k2942 tQ (st2953 _ kk)
    clear k2942 st2953
    have k2959 : own_G p e below E0 T2943 (mkF m 89 #[vi p0, vi p1, vi p2, vi p3, vi (8 : Int32), vr a2858, vr r2912, vj (p1.toInt64), ss, vj (p2.toInt64), ss] [(.long (p2.toInt64)), (.long (p1.toInt64)), (.int (8 : Int32)), (.int (2 : Int32)), (.ref r2912)]) := by
      intro tQ kk
      refine k2958 tQ ?_
      refine XS.ifNo X2947.here hx rfl (hb hby at_77) rfl (own_if_eqN (by decide)) ?_
      refine XS.aload X2947.here hx rfl (hb hby at_80) rfl rfl ?_
      refine XS.iconst X2947.here hx rfl (hb hby at_82) ?_
      refine XS.iload X2947.here hx rfl (hb hby at_83) rfl ?_
      show Steps p.tables e below (T2943.setTop (mkF m 85 #[vi p0, vi p1, vi p2, vi p3, vi (8 : Int32), vr a2858, vr r2912, vj (p1.toInt64), ss, vj (p2.toInt64), ss] [(.int (8 : Int32)), (.int (2 : Int32)), (.ref r2912)])) tQ
      refine XT.lload X2947.here hx rfl (hb hby at_85) rfl ?_
      refine XT.lload X2947.here hx rfl (hb hby at_87) rfl ?_
      exact kk
    clear k2958
    obtain ⟨_, _, ⟨T2960, L2961, kc2962, nc2963⟩, -, X2964, ⟨Lc2965, hQ2966, l2967, y2968, z2969⟩, st2970⟩ := Jvm.LawKit.callS X2947 hx (y := mn13) hown (mvT hZ (tw39 hw)) (mvT hZ (tw40 hw)) (mvT hZ (tw41 hw)) (mvT hZ (tw42 hw)) (by decide) (backOf (W := 0) (rmT l Z a0 hw [] r2912 (2 : Int32) (8 : Int32) (p1.toInt64) (p2.toInt64) ([(.double (FP.dadd (FP.i2d p1) (FP.dmul (FP.i2d (0 : Int32)) (FP.i2d p2)))), (.double (FP.dadd (FP.i2d p1) (FP.dmul (FP.i2d (1 : Int32)) (FP.i2d p2)))), (.double (FP.dadd (FP.i2d p1) (FP.dmul (FP.i2d (2 : Int32)) (FP.i2d p2)))), (.double (FP.dadd (FP.i2d p1) (FP.dmul (FP.i2d (3 : Int32)) (FP.i2d p2)))), (.double (FP.dadd (FP.i2d p1) (FP.dmul (FP.i2d (4 : Int32)) (FP.i2d p2)))), (.double (FP.dadd (FP.i2d p1) (FP.dmul (FP.i2d (5 : Int32)) (FP.i2d p2)))), (.double (FP.dadd (FP.i2d p1) (FP.dmul (FP.i2d (6 : Int32)) (FP.i2d p2)))), (.double (FP.dadd (FP.i2d p1) (FP.dmul (FP.i2d (7 : Int32)) (FP.i2d p2))))]) (FP.dadd (FP.i2d p1) (FP.dmul (FP.i2d (2 : Int32)) (FP.i2d p2))) (p1.toInt + 2 * p2.toInt) T2893.heap n0 Z2916 g2914 (fun _ => ⟨by decide, rfl, own_el p1 p2 (2 : Int32) 2 rfl (by decide) (by decide), own_le p1 p2 (2 : Int32) 2 rfl (by decide) (by decide)⟩)) hZ (tw42 hw) (tw41 hw) (by decide) (by decide)) (g := (mkF m 89 #[vi p0, vi p1, vi p2, vi p3, vi (8 : Int32), vr a2858, vr r2912, vj (p1.toInt64), ss, vj (p2.toInt64), ss] [(.long (p2.toInt64)), (.long (p1.toInt64)), (.int (8 : Int32)), (.int (2 : Int32)), (.ref r2912)])) rfl (by rw [hml]; rfl) (argsL := [(.ref r2912), (.int (2 : Int32)), (.int (8 : Int32)), (.long (p1.toInt64)), (.long (p2.toInt64))]) (rest := []) (lenOf pd_16 rfl) rfl (by show 2 * 0 + _ ≤ _; exact Nat.le_of_eq rfl) (hb hby at_89) (fun _ _ => ⟨rfl, e2955, (by decide : 2 + 0 ≤ _), (by decide : 11 + 0 ≤ _)⟩)
    dsimp only [Pt.U, Pt.locs, Pt.cells, Pt.slots] at X2964 l2967 y2968 z2969 st2970 hQ2966
    subst l2967 y2968 z2969
    obtain ⟨rfl, N2971, e2972⟩ := hQ2966
    have N2974 := Fr.app N2957 N2971
    have k2975 : own_G p e below E0 T2960 (mkF m 92 #[vi p0, vi p1, vi p2, vi p3, vi (8 : Int32), vr a2858, vr r2912, vj (p1.toInt64), ss, vj (p2.toInt64), ss] [(.int (1 : Int32))]) := fun tQ kk => k2959 tQ (st2970 _ kk)
    clear k2959 st2970
    have k2976 : own_G p e below E0 T2960 (mkF m 104 #[vi p0, vi p1, vi p2, vi p3, vi (8 : Int32), vr a2858, vr r2912, vj (p1.toInt64), ss, vj (p2.toInt64), ss] [(.long (p2.toInt64)), (.long (p1.toInt64)), (.int (8 : Int32)), (.int (3 : Int32)), (.ref r2912)]) := by
      intro tQ kk
      refine k2975 tQ ?_
      refine XS.ifNo X2964.here hx rfl (hb hby at_92) rfl (own_if_eqN (by decide)) ?_
      refine XS.aload X2964.here hx rfl (hb hby at_95) rfl rfl ?_
      refine XS.iconst X2964.here hx rfl (hb hby at_97) ?_
      refine XS.iload X2964.here hx rfl (hb hby at_98) rfl ?_
      show Steps p.tables e below (T2960.setTop (mkF m 100 #[vi p0, vi p1, vi p2, vi p3, vi (8 : Int32), vr a2858, vr r2912, vj (p1.toInt64), ss, vj (p2.toInt64), ss] [(.int (8 : Int32)), (.int (3 : Int32)), (.ref r2912)])) tQ
      refine XT.lload X2964.here hx rfl (hb hby at_100) rfl ?_
      refine XT.lload X2964.here hx rfl (hb hby at_102) rfl ?_
      exact kk
    clear k2975
    obtain ⟨_, _, ⟨T2977, L2978, kc2979, nc2980⟩, -, X2981, ⟨Lc2982, hQ2983, l2984, y2985, z2986⟩, st2987⟩ := Jvm.LawKit.callS X2964 hx (y := mn13) hown (mvT hZ (tw39 hw)) (mvT hZ (tw40 hw)) (mvT hZ (tw41 hw)) (mvT hZ (tw42 hw)) (by decide) (backOf (W := 0) (rmT l Z a0 hw [] r2912 (3 : Int32) (8 : Int32) (p1.toInt64) (p2.toInt64) ([(.double (FP.dadd (FP.i2d p1) (FP.dmul (FP.i2d (0 : Int32)) (FP.i2d p2)))), (.double (FP.dadd (FP.i2d p1) (FP.dmul (FP.i2d (1 : Int32)) (FP.i2d p2)))), (.double (FP.dadd (FP.i2d p1) (FP.dmul (FP.i2d (2 : Int32)) (FP.i2d p2)))), (.double (FP.dadd (FP.i2d p1) (FP.dmul (FP.i2d (3 : Int32)) (FP.i2d p2)))), (.double (FP.dadd (FP.i2d p1) (FP.dmul (FP.i2d (4 : Int32)) (FP.i2d p2)))), (.double (FP.dadd (FP.i2d p1) (FP.dmul (FP.i2d (5 : Int32)) (FP.i2d p2)))), (.double (FP.dadd (FP.i2d p1) (FP.dmul (FP.i2d (6 : Int32)) (FP.i2d p2)))), (.double (FP.dadd (FP.i2d p1) (FP.dmul (FP.i2d (7 : Int32)) (FP.i2d p2))))]) (FP.dadd (FP.i2d p1) (FP.dmul (FP.i2d (3 : Int32)) (FP.i2d p2))) (p1.toInt + 3 * p2.toInt) T2893.heap n0 Z2916 g2914 (fun _ => ⟨by decide, rfl, own_el p1 p2 (3 : Int32) 3 rfl (by decide) (by decide), own_le p1 p2 (3 : Int32) 3 rfl (by decide) (by decide)⟩)) hZ (tw42 hw) (tw41 hw) (by decide) (by decide)) (g := (mkF m 104 #[vi p0, vi p1, vi p2, vi p3, vi (8 : Int32), vr a2858, vr r2912, vj (p1.toInt64), ss, vj (p2.toInt64), ss] [(.long (p2.toInt64)), (.long (p1.toInt64)), (.int (8 : Int32)), (.int (3 : Int32)), (.ref r2912)])) rfl (by rw [hml]; rfl) (argsL := [(.ref r2912), (.int (3 : Int32)), (.int (8 : Int32)), (.long (p1.toInt64)), (.long (p2.toInt64))]) (rest := []) (lenOf pd_16 rfl) rfl (by show 2 * 0 + _ ≤ _; exact Nat.le_of_eq rfl) (hb hby at_104) (fun _ _ => ⟨rfl, e2972, (by decide : 2 + 0 ≤ _), (by decide : 11 + 0 ≤ _)⟩)
    dsimp only [Pt.U, Pt.locs, Pt.cells, Pt.slots] at X2981 l2984 y2985 z2986 st2987 hQ2983
    subst l2984 y2985 z2986
    obtain ⟨rfl, N2988, e2989⟩ := hQ2983
    have N2991 := Fr.app N2974 N2988
    have k2992 : own_G p e below E0 T2977 (mkF m 107 #[vi p0, vi p1, vi p2, vi p3, vi (8 : Int32), vr a2858, vr r2912, vj (p1.toInt64), ss, vj (p2.toInt64), ss] [(.int (1 : Int32))]) := fun tQ kk => k2976 tQ (st2987 _ kk)
    clear k2976 st2987
    have k2993 : own_G p e below E0 T2977 (mkF m 119 #[vi p0, vi p1, vi p2, vi p3, vi (8 : Int32), vr a2858, vr r2912, vj (p1.toInt64), ss, vj (p2.toInt64), ss] [(.long (p2.toInt64)), (.long (p1.toInt64)), (.int (8 : Int32)), (.int (4 : Int32)), (.ref r2912)]) := by
      intro tQ kk
      refine k2992 tQ ?_
      refine XS.ifNo X2981.here hx rfl (hb hby at_107) rfl (own_if_eqN (by decide)) ?_
      refine XS.aload X2981.here hx rfl (hb hby at_110) rfl rfl ?_
      refine XS.iconst X2981.here hx rfl (hb hby at_112) ?_
      refine XS.iload X2981.here hx rfl (hb hby at_113) rfl ?_
      show Steps p.tables e below (T2977.setTop (mkF m 115 #[vi p0, vi p1, vi p2, vi p3, vi (8 : Int32), vr a2858, vr r2912, vj (p1.toInt64), ss, vj (p2.toInt64), ss] [(.int (8 : Int32)), (.int (4 : Int32)), (.ref r2912)])) tQ
      refine XT.lload X2981.here hx rfl (hb hby at_115) rfl ?_
      refine XT.lload X2981.here hx rfl (hb hby at_117) rfl ?_
      exact kk
    clear k2992
    obtain ⟨_, _, ⟨T2994, L2995, kc2996, nc2997⟩, -, X2998, ⟨Lc2999, hQ3000, l3001, y3002, z3003⟩, st3004⟩ := Jvm.LawKit.callS X2981 hx (y := mn13) hown (mvT hZ (tw39 hw)) (mvT hZ (tw40 hw)) (mvT hZ (tw41 hw)) (mvT hZ (tw42 hw)) (by decide) (backOf (W := 0) (rmT l Z a0 hw [] r2912 (4 : Int32) (8 : Int32) (p1.toInt64) (p2.toInt64) ([(.double (FP.dadd (FP.i2d p1) (FP.dmul (FP.i2d (0 : Int32)) (FP.i2d p2)))), (.double (FP.dadd (FP.i2d p1) (FP.dmul (FP.i2d (1 : Int32)) (FP.i2d p2)))), (.double (FP.dadd (FP.i2d p1) (FP.dmul (FP.i2d (2 : Int32)) (FP.i2d p2)))), (.double (FP.dadd (FP.i2d p1) (FP.dmul (FP.i2d (3 : Int32)) (FP.i2d p2)))), (.double (FP.dadd (FP.i2d p1) (FP.dmul (FP.i2d (4 : Int32)) (FP.i2d p2)))), (.double (FP.dadd (FP.i2d p1) (FP.dmul (FP.i2d (5 : Int32)) (FP.i2d p2)))), (.double (FP.dadd (FP.i2d p1) (FP.dmul (FP.i2d (6 : Int32)) (FP.i2d p2)))), (.double (FP.dadd (FP.i2d p1) (FP.dmul (FP.i2d (7 : Int32)) (FP.i2d p2))))]) (FP.dadd (FP.i2d p1) (FP.dmul (FP.i2d (4 : Int32)) (FP.i2d p2))) (p1.toInt + 4 * p2.toInt) T2893.heap n0 Z2916 g2914 (fun _ => ⟨by decide, rfl, own_el p1 p2 (4 : Int32) 4 rfl (by decide) (by decide), own_le p1 p2 (4 : Int32) 4 rfl (by decide) (by decide)⟩)) hZ (tw42 hw) (tw41 hw) (by decide) (by decide)) (g := (mkF m 119 #[vi p0, vi p1, vi p2, vi p3, vi (8 : Int32), vr a2858, vr r2912, vj (p1.toInt64), ss, vj (p2.toInt64), ss] [(.long (p2.toInt64)), (.long (p1.toInt64)), (.int (8 : Int32)), (.int (4 : Int32)), (.ref r2912)])) rfl (by rw [hml]; rfl) (argsL := [(.ref r2912), (.int (4 : Int32)), (.int (8 : Int32)), (.long (p1.toInt64)), (.long (p2.toInt64))]) (rest := []) (lenOf pd_16 rfl) rfl (by show 2 * 0 + _ ≤ _; exact Nat.le_of_eq rfl) (hb hby at_119) (fun _ _ => ⟨rfl, e2989, (by decide : 2 + 0 ≤ _), (by decide : 11 + 0 ≤ _)⟩)
    dsimp only [Pt.U, Pt.locs, Pt.cells, Pt.slots] at X2998 l3001 y3002 z3003 st3004 hQ3000
    subst l3001 y3002 z3003
    obtain ⟨rfl, N3005, e3006⟩ := hQ3000
    have N3008 := Fr.app N2991 N3005
    have k3009 : own_G p e below E0 T2994 (mkF m 122 #[vi p0, vi p1, vi p2, vi p3, vi (8 : Int32), vr a2858, vr r2912, vj (p1.toInt64), ss, vj (p2.toInt64), ss] [(.int (1 : Int32))]) := fun tQ kk => k2993 tQ (st3004 _ kk)
    clear k2993 st3004
    have k3010 : own_G p e below E0 T2994 (mkF m 134 #[vi p0, vi p1, vi p2, vi p3, vi (8 : Int32), vr a2858, vr r2912, vj (p1.toInt64), ss, vj (p2.toInt64), ss] [(.long (p2.toInt64)), (.long (p1.toInt64)), (.int (8 : Int32)), (.int (5 : Int32)), (.ref r2912)]) := by
      intro tQ kk
      refine k3009 tQ ?_
      refine XS.ifNo X2998.here hx rfl (hb hby at_122) rfl (own_if_eqN (by decide)) ?_
      refine XS.aload X2998.here hx rfl (hb hby at_125) rfl rfl ?_
      refine XS.iconst X2998.here hx rfl (hb hby at_127) ?_
      refine XS.iload X2998.here hx rfl (hb hby at_128) rfl ?_
      show Steps p.tables e below (T2994.setTop (mkF m 130 #[vi p0, vi p1, vi p2, vi p3, vi (8 : Int32), vr a2858, vr r2912, vj (p1.toInt64), ss, vj (p2.toInt64), ss] [(.int (8 : Int32)), (.int (5 : Int32)), (.ref r2912)])) tQ
      refine XT.lload X2998.here hx rfl (hb hby at_130) rfl ?_
      refine XT.lload X2998.here hx rfl (hb hby at_132) rfl ?_
      exact kk
    clear k3009
    obtain ⟨_, _, ⟨T3011, L3012, kc3013, nc3014⟩, -, X3015, ⟨Lc3016, hQ3017, l3018, y3019, z3020⟩, st3021⟩ := Jvm.LawKit.callS X2998 hx (y := mn13) hown (mvT hZ (tw39 hw)) (mvT hZ (tw40 hw)) (mvT hZ (tw41 hw)) (mvT hZ (tw42 hw)) (by decide) (backOf (W := 0) (rmT l Z a0 hw [] r2912 (5 : Int32) (8 : Int32) (p1.toInt64) (p2.toInt64) ([(.double (FP.dadd (FP.i2d p1) (FP.dmul (FP.i2d (0 : Int32)) (FP.i2d p2)))), (.double (FP.dadd (FP.i2d p1) (FP.dmul (FP.i2d (1 : Int32)) (FP.i2d p2)))), (.double (FP.dadd (FP.i2d p1) (FP.dmul (FP.i2d (2 : Int32)) (FP.i2d p2)))), (.double (FP.dadd (FP.i2d p1) (FP.dmul (FP.i2d (3 : Int32)) (FP.i2d p2)))), (.double (FP.dadd (FP.i2d p1) (FP.dmul (FP.i2d (4 : Int32)) (FP.i2d p2)))), (.double (FP.dadd (FP.i2d p1) (FP.dmul (FP.i2d (5 : Int32)) (FP.i2d p2)))), (.double (FP.dadd (FP.i2d p1) (FP.dmul (FP.i2d (6 : Int32)) (FP.i2d p2)))), (.double (FP.dadd (FP.i2d p1) (FP.dmul (FP.i2d (7 : Int32)) (FP.i2d p2))))]) (FP.dadd (FP.i2d p1) (FP.dmul (FP.i2d (5 : Int32)) (FP.i2d p2))) (p1.toInt + 5 * p2.toInt) T2893.heap n0 Z2916 g2914 (fun _ => ⟨by decide, rfl, own_el p1 p2 (5 : Int32) 5 rfl (by decide) (by decide), own_le p1 p2 (5 : Int32) 5 rfl (by decide) (by decide)⟩)) hZ (tw42 hw) (tw41 hw) (by decide) (by decide)) (g := (mkF m 134 #[vi p0, vi p1, vi p2, vi p3, vi (8 : Int32), vr a2858, vr r2912, vj (p1.toInt64), ss, vj (p2.toInt64), ss] [(.long (p2.toInt64)), (.long (p1.toInt64)), (.int (8 : Int32)), (.int (5 : Int32)), (.ref r2912)])) rfl (by rw [hml]; rfl) (argsL := [(.ref r2912), (.int (5 : Int32)), (.int (8 : Int32)), (.long (p1.toInt64)), (.long (p2.toInt64))]) (rest := []) (lenOf pd_16 rfl) rfl (by show 2 * 0 + _ ≤ _; exact Nat.le_of_eq rfl) (hb hby at_134) (fun _ _ => ⟨rfl, e3006, (by decide : 2 + 0 ≤ _), (by decide : 11 + 0 ≤ _)⟩)
    dsimp only [Pt.U, Pt.locs, Pt.cells, Pt.slots] at X3015 l3018 y3019 z3020 st3021 hQ3017
    subst l3018 y3019 z3020
    obtain ⟨rfl, N3022, e3023⟩ := hQ3017
    have N3025 := Fr.app N3008 N3022
    have k3026 : own_G p e below E0 T3011 (mkF m 137 #[vi p0, vi p1, vi p2, vi p3, vi (8 : Int32), vr a2858, vr r2912, vj (p1.toInt64), ss, vj (p2.toInt64), ss] [(.int (1 : Int32))]) := fun tQ kk => k3010 tQ (st3021 _ kk)
    clear k3010 st3021
    have k3027 : own_G p e below E0 T3011 (mkF m 150 #[vi p0, vi p1, vi p2, vi p3, vi (8 : Int32), vr a2858, vr r2912, vj (p1.toInt64), ss, vj (p2.toInt64), ss] [(.long (p2.toInt64)), (.long (p1.toInt64)), (.int (8 : Int32)), (.int (6 : Int32)), (.ref r2912)]) := by
      intro tQ kk
      refine k3026 tQ ?_
      refine XS.ifNo X3015.here hx rfl (hb hby at_137) rfl (own_if_eqN (by decide)) ?_
      refine XS.aload X3015.here hx rfl (hb hby at_140) rfl rfl ?_
      refine XS.bipush X3015.here hx rfl (hb hby at_142) ?_
      refine XS.iload X3015.here hx rfl (hb hby at_144) rfl ?_
      show Steps p.tables e below (T3011.setTop (mkF m 146 #[vi p0, vi p1, vi p2, vi p3, vi (8 : Int32), vr a2858, vr r2912, vj (p1.toInt64), ss, vj (p2.toInt64), ss] [(.int (8 : Int32)), (.int (6 : Int32)), (.ref r2912)])) tQ
      refine XT.lload X3015.here hx rfl (hb hby at_146) rfl ?_
      refine XT.lload X3015.here hx rfl (hb hby at_148) rfl ?_
      exact kk
    clear k3026
    obtain ⟨_, _, ⟨T3028, L3029, kc3030, nc3031⟩, -, X3032, ⟨Lc3033, hQ3034, l3035, y3036, z3037⟩, st3038⟩ := Jvm.LawKit.callS X3015 hx (y := mn13) hown (mvT hZ (tw39 hw)) (mvT hZ (tw40 hw)) (mvT hZ (tw41 hw)) (mvT hZ (tw42 hw)) (by decide) (backOf (W := 0) (rmT l Z a0 hw [] r2912 (6 : Int32) (8 : Int32) (p1.toInt64) (p2.toInt64) ([(.double (FP.dadd (FP.i2d p1) (FP.dmul (FP.i2d (0 : Int32)) (FP.i2d p2)))), (.double (FP.dadd (FP.i2d p1) (FP.dmul (FP.i2d (1 : Int32)) (FP.i2d p2)))), (.double (FP.dadd (FP.i2d p1) (FP.dmul (FP.i2d (2 : Int32)) (FP.i2d p2)))), (.double (FP.dadd (FP.i2d p1) (FP.dmul (FP.i2d (3 : Int32)) (FP.i2d p2)))), (.double (FP.dadd (FP.i2d p1) (FP.dmul (FP.i2d (4 : Int32)) (FP.i2d p2)))), (.double (FP.dadd (FP.i2d p1) (FP.dmul (FP.i2d (5 : Int32)) (FP.i2d p2)))), (.double (FP.dadd (FP.i2d p1) (FP.dmul (FP.i2d (6 : Int32)) (FP.i2d p2)))), (.double (FP.dadd (FP.i2d p1) (FP.dmul (FP.i2d (7 : Int32)) (FP.i2d p2))))]) (FP.dadd (FP.i2d p1) (FP.dmul (FP.i2d (6 : Int32)) (FP.i2d p2))) (p1.toInt + 6 * p2.toInt) T2893.heap n0 Z2916 g2914 (fun _ => ⟨by decide, rfl, own_el p1 p2 (6 : Int32) 6 rfl (by decide) (by decide), own_le p1 p2 (6 : Int32) 6 rfl (by decide) (by decide)⟩)) hZ (tw42 hw) (tw41 hw) (by decide) (by decide)) (g := (mkF m 150 #[vi p0, vi p1, vi p2, vi p3, vi (8 : Int32), vr a2858, vr r2912, vj (p1.toInt64), ss, vj (p2.toInt64), ss] [(.long (p2.toInt64)), (.long (p1.toInt64)), (.int (8 : Int32)), (.int (6 : Int32)), (.ref r2912)])) rfl (by rw [hml]; rfl) (argsL := [(.ref r2912), (.int (6 : Int32)), (.int (8 : Int32)), (.long (p1.toInt64)), (.long (p2.toInt64))]) (rest := []) (lenOf pd_16 rfl) rfl (by show 2 * 0 + _ ≤ _; exact Nat.le_of_eq rfl) (hb hby at_150) (fun _ _ => ⟨rfl, e3023, (by decide : 2 + 0 ≤ _), (by decide : 11 + 0 ≤ _)⟩)
    dsimp only [Pt.U, Pt.locs, Pt.cells, Pt.slots] at X3032 l3035 y3036 z3037 st3038 hQ3034
    subst l3035 y3036 z3037
    obtain ⟨rfl, N3039, e3040⟩ := hQ3034
    have N3042 := Fr.app N3025 N3039
    have k3043 : own_G p e below E0 T3028 (mkF m 153 #[vi p0, vi p1, vi p2, vi p3, vi (8 : Int32), vr a2858, vr r2912, vj (p1.toInt64), ss, vj (p2.toInt64), ss] [(.int (1 : Int32))]) := fun tQ kk => k3027 tQ (st3038 _ kk)
    clear k3027 st3038
    have k3044 : own_G p e below E0 T3028 (mkF m 166 #[vi p0, vi p1, vi p2, vi p3, vi (8 : Int32), vr a2858, vr r2912, vj (p1.toInt64), ss, vj (p2.toInt64), ss] [(.long (p2.toInt64)), (.long (p1.toInt64)), (.int (8 : Int32)), (.int (7 : Int32)), (.ref r2912)]) := by
      intro tQ kk
      refine k3043 tQ ?_
      refine XS.ifNo X3032.here hx rfl (hb hby at_153) rfl (own_if_eqN (by decide)) ?_
      refine XS.aload X3032.here hx rfl (hb hby at_156) rfl rfl ?_
      refine XS.bipush X3032.here hx rfl (hb hby at_158) ?_
      refine XS.iload X3032.here hx rfl (hb hby at_160) rfl ?_
      show Steps p.tables e below (T3028.setTop (mkF m 162 #[vi p0, vi p1, vi p2, vi p3, vi (8 : Int32), vr a2858, vr r2912, vj (p1.toInt64), ss, vj (p2.toInt64), ss] [(.int (8 : Int32)), (.int (7 : Int32)), (.ref r2912)])) tQ
      refine XT.lload X3032.here hx rfl (hb hby at_162) rfl ?_
      refine XT.lload X3032.here hx rfl (hb hby at_164) rfl ?_
      exact kk
    clear k3043
    obtain ⟨_, _, ⟨T3045, L3046, kc3047, nc3048⟩, -, X3049, ⟨Lc3050, hQ3051, l3052, y3053, z3054⟩, st3055⟩ := Jvm.LawKit.callS X3032 hx (y := mn13) hown (mvT hZ (tw39 hw)) (mvT hZ (tw40 hw)) (mvT hZ (tw41 hw)) (mvT hZ (tw42 hw)) (by decide) (backOf (W := 0) (rmT l Z a0 hw [] r2912 (7 : Int32) (8 : Int32) (p1.toInt64) (p2.toInt64) ([(.double (FP.dadd (FP.i2d p1) (FP.dmul (FP.i2d (0 : Int32)) (FP.i2d p2)))), (.double (FP.dadd (FP.i2d p1) (FP.dmul (FP.i2d (1 : Int32)) (FP.i2d p2)))), (.double (FP.dadd (FP.i2d p1) (FP.dmul (FP.i2d (2 : Int32)) (FP.i2d p2)))), (.double (FP.dadd (FP.i2d p1) (FP.dmul (FP.i2d (3 : Int32)) (FP.i2d p2)))), (.double (FP.dadd (FP.i2d p1) (FP.dmul (FP.i2d (4 : Int32)) (FP.i2d p2)))), (.double (FP.dadd (FP.i2d p1) (FP.dmul (FP.i2d (5 : Int32)) (FP.i2d p2)))), (.double (FP.dadd (FP.i2d p1) (FP.dmul (FP.i2d (6 : Int32)) (FP.i2d p2)))), (.double (FP.dadd (FP.i2d p1) (FP.dmul (FP.i2d (7 : Int32)) (FP.i2d p2))))]) (FP.dadd (FP.i2d p1) (FP.dmul (FP.i2d (7 : Int32)) (FP.i2d p2))) (p1.toInt + 7 * p2.toInt) T2893.heap n0 Z2916 g2914 (fun _ => ⟨by decide, rfl, own_el p1 p2 (7 : Int32) 7 rfl (by decide) (by decide), own_le p1 p2 (7 : Int32) 7 rfl (by decide) (by decide)⟩)) hZ (tw42 hw) (tw41 hw) (by decide) (by decide)) (g := (mkF m 166 #[vi p0, vi p1, vi p2, vi p3, vi (8 : Int32), vr a2858, vr r2912, vj (p1.toInt64), ss, vj (p2.toInt64), ss] [(.long (p2.toInt64)), (.long (p1.toInt64)), (.int (8 : Int32)), (.int (7 : Int32)), (.ref r2912)])) rfl (by rw [hml]; rfl) (argsL := [(.ref r2912), (.int (7 : Int32)), (.int (8 : Int32)), (.long (p1.toInt64)), (.long (p2.toInt64))]) (rest := []) (lenOf pd_16 rfl) rfl (by show 2 * 0 + _ ≤ _; exact Nat.le_of_eq rfl) (hb hby at_166) (fun _ _ => ⟨rfl, e3040, (by decide : 2 + 0 ≤ _), (by decide : 11 + 0 ≤ _)⟩)
    dsimp only [Pt.U, Pt.locs, Pt.cells, Pt.slots] at X3049 l3052 y3053 z3054 st3055 hQ3051
    subst l3052 y3053 z3054
    obtain ⟨rfl, N3056, e3057⟩ := hQ3051
    have N3059 := Fr.app N3042 N3056
    have k3060 : own_G p e below E0 T3045 (mkF m 169 #[vi p0, vi p1, vi p2, vi p3, vi (8 : Int32), vr a2858, vr r2912, vj (p1.toInt64), ss, vj (p2.toInt64), ss] [(.int (1 : Int32))]) := fun tQ kk => k3044 tQ (st3055 _ kk)
    clear k3044 st3055
    have k3061 : own_G p e below E0 T3045 (mkF m 177 #[vi p0, vi p1, vi p2, vi p3, vi (8 : Int32), vr a2858, vr r2912, vj (p1.toInt64), ss, vj (p2.toInt64), ss] [(.int (1 : Int32))]) := by
      intro tQ kk
      refine k3060 tQ ?_
      refine XS.ifNo X3049.here hx rfl (hb hby at_169) rfl (own_if_eqN (by decide)) ?_
      refine XS.iconst X3049.here hx rfl (hb hby at_172) ?_
      refine XS.goto X3049.here hx rfl (pc0 := 173) (pc' := 177) rfl (hb hby at_173) (by decide) (by decide) ?_
      exact kk
    clear k3060
    obtain ⟨fs, hr, hrun, hended, hW, hsame⟩ := X3049.leave (v := some (.int (1 : Int32))) (fun h => by rw [Bd.returns] at h; cases h)
    have hrun0 := k3061 _ (retOut X3049 hx Bd.returns (t := .boolean) rfl (Or.inl ⟨rfl, Or.inr (Or.inl rfl), _, rfl⟩) (hb hby at_177) hr)
    subst hE0
    refine ⟨_, _, hrun0, hrun, hended, _, _, rfl, ?_, ⟨_, rfl⟩, hW, hsame.mono (by decide) (by decide)⟩
    show Qrm0 Z p0 p1 p2 p3 h0 n0 _ T3045.heap _
    rw [e3057]
    exact ⟨rfl, N3059⟩
set_option maxRecDepth 65536 in
set_option maxHeartbeats 40000000 in
theorem comes_1 {Post : Tables → Env → Array Value → State → Outcome → State → Prop} (hpost : ∀ tb e args s v u, (limb_1_1.after args s (.returned v) u = true ∧ limb_1_2.after args s (.returned v) u = true ∧ True) → FrameEnd s (.returned v) u (Jvm.fieldLocs frame_1_writes args s ++ Jvm.arrayLocs frame_1_arrays args s ++ Jvm.staticLocs frame_1_statics s) 16 128 → Post tb e args s (.returned v) u) :
    ArmFor flags0 classFile x code maxLocals ret World_1 tables_1 room_1 Calls_1 rest_1 Pre_1 Post := by
  intro l hfl _ _ p e ha hc hk s m args below hf hA hF happ hP
  obtain ⟨hcalls, hrest, hpre⟩ := hP
  obtain ⟨-, -, -, hnamed, -, -, -, hat⟩ := (Spec.applies_iff hf).mp happ
  obtain ⟨hg, hn⟩ := and_e (Cond.before_iff.mp (show (Jvm.Cond.and given_1 narrow_1).before args s = true from hpre))
  obtain ⟨hct, hr0⟩ := and_e hg
  obtain ⟨ha0, hr1⟩ := and_e hr0
  obtain ⟨ha1, hr2⟩ := and_e hr1
  obtain ⟨ha2, hr3⟩ := and_e hr2
  obtain ⟨w0, w1, w2, w3, rfl⟩ : ∃ w0 w1 w2 w3 : Value, args = #[w0, w1, w2, w3] := by
    have hs : args.size = 4 := by simpa [Cond.value, given_1] using hct
    obtain ⟨L⟩ := args
    match L, hs with
    | [w0, w1, w2, w3], _ => exact ⟨w0, w1, w2, w3, rfl⟩
  have hw := fun d (hd : d ∈ tables_1) => atoms_spec (ws := Jvm.Cond.code x code maxLocals ret :: tables_1) hat d (List.mem_cons_of_mem _ hd)
  have hfit : Fit s := fun {y c} hc i hi => by
    obtain ⟨ha, rfl⟩ := Array.getElem?_eq_some_iff.mp hc
    have q := List.all_eq_true.mp ((Array.all_eq_true_iff_forall_mem.mp hF) _ (Array.getElem_mem ha)) i (List.mem_range.mpr hi)
    simpa [Array.getElem?_eq_getElem hi] using q
  obtain ⟨i0, ev0⟩ := is_v ha0
  obtain rfl : w0 = (.int i0) := Option.some.inj ev0
  obtain ⟨i1, ev1⟩ := is_v ha1
  obtain rfl : w1 = (.int i1) := Option.some.inj ev1
  obtain ⟨i2, ev2⟩ := is_v ha2
  obtain rfl : w2 = (.int i2) := Option.some.inj ev2
  obtain ⟨i3, ev3⟩ := is_v hr3
  obtain rfl : w3 = (.int i3) := Option.some.inj ev3
  obtain ⟨n, o, h1, h2, h3, _, L, rfl, ⟨rfl, N⟩, hq⟩ := rm0 l s _ hw tables_1 i0 i1 i2 i3 s.heap s.heap.size (Nat.le_refl _) p e ha hc hk s m _ below hf ((Spec.applies_iff_loose hf).mp happ).1 ⟨rfl, State.Warmed39.refl s, rfl⟩ trivial
  refine ⟨n, _, h1, h2, h3, hpost _ _ _ _ _ _ ⟨Cond.after_iff.mpr rfl, Cond.after_iff.mpr (eq_i res_at (Term.int_eval (1)) rfl), trivial⟩ ⟨hq.1, hq.2.1, (hq.2.2.sift fun y hy => Or.inr (N y hy)).mono (by decide) (by decide)⟩⟩
theorem main_1_1 : Claimed_1_1 := comes_1 fun _ _ _ _ _ _ h hF => ⟨h.1, hF⟩
theorem main_1_2 : Claimed_1_2 := comes_1 fun _ _ _ _ _ _ h hF => ⟨h.2.1, hF⟩
end Jvm.Pilot.@@N@@
namespace Jvm.Pilot.@@N@@
open Jvm Jvm.ClassFile Sem Op Lib Jvm.Free Jvm.Stand Jvm.Pilot.@@N@@.Jvm.D
/-! MADE BY PROGRAM (witnessworld.py) out of the Statement's table words and the real class files: 19 classes; the members and pool entries that the words name. The judged class is class 1, her method 1. -/
namespace start1
open Jvm.ClassFile
def u (s : String) : CpInfo := .utf8 (stringToUtf16 s)
/-- a pool by its gaps: so many unusable entries, then the entry; so many at the end -/
def gap : Nat → List CpInfo → List CpInfo
  | 0, r => r
  | n + 1, r => .unusable :: gap n r
def poolList (es : List (Nat × CpInfo)) (last : Nat) : List CpInfo := es.foldr (fun e r => gap e.1 (e.2 :: r)) (gap last [])
def pool (es : List (Nat × CpInfo)) (last : Nat) : Array CpInfo := ⟨poolList es last⟩
def fileOf (pool : Array CpInfo) (this : Nat) (attrs : Array Attribute := #[]) (ms : Array MethodInfo := #[]) (fl : Nat := 33) (sup : Nat := 0) (ifs : Array Nat := #[]) (fds : Array FieldInfo := #[]) : ClassFile where
  minorVersion := 0
  majorVersion := 65
  constantPool := pool
  accessFlags := fl
  thisClass := this
  superClass := sup
  interfaces := ifs
  fields := fds
  methods := ms
  attributes := attrs
def plain (name : String) (sup : Option ClassId) : Class where
  name := name
  kind := .ordinary
  loader := none
  accessFlags := 33
  super := sup
  interfaces := #[]
  cf := none
  fields := #[]
  methods := #[]
  instanceTypes := #[]
  staticTypes := #[]
  resolved := #[]
  callSites := []
  init := .initialized
  statics := none
  mirror := none

def pool0 : Array CpInfo := pool [(5, u "<init>"), (0, u "()V"), (1, .class_ 10), (1, u "java/lang/Object")] 113

def k0c0 : Code := { maxStack := 0, maxLocals := 1, code := object_method_1_code, exceptionTable := #[], attributes := #[] }
def k0m0 : Method := { name := "<init>", desc := "()V", sig := { parameters := [], returnType := none }, accessFlags := 1, code := some k0c0 }
/-- java/lang/Object -/
def k0 : Class := { plain "java/lang/Object" none with
  accessFlags := 33
  interfaces := #[]
  cf := some (fileOf pool0 8 #[] #[{ accessFlags := 1, nameIndex := 5, descriptorIndex := 6, attributes := #[] }] 33 0 #[] #[])
  fields := #[]
  methods := #[k0m0]
  instanceTypes := #[]
  staticTypes := #[]
  resolved := Array.replicate 124 none
  statics := none }

def pool1 : Array CpInfo := pool [(2, .class_ 4), (1, u "java/lang/Object"), (0, u "<init>"), (0, u "()V"), (0, .class_ 8), (0, u "com/example/capwright/capwright/premise/ConstantAmountChange"), (0, .methodref 7 10), (0, .nameAndType 5 11), (0, u "(DID)V"), (0, .methodref 7 13), (0, .nameAndType 14 15), (0, u "incomes"), (0, u "(D)[D"), (0, .methodref 17 18), (0, .class_ 19), (0, .nameAndType 20 21), (0, u "com/example/capwright/capwright/premise/ConstantAmountChangeIncomesPinLaw"), (0, u "at"), (0, u "([DIIJJ)Z"), (2, u "law"), (0, u "(IIII)Z")] 5

def k1m0 : Method := { name := "<init>", desc := "()V", sig := { parameters := [], returnType := none }, accessFlags := 2, code := none }
def k1c1 : Code := { maxStack := 7, maxLocals := 11, code := code, exceptionTable := #[], attributes := #[] }
def k1m1 : Method := { name := "law", desc := "(IIII)Z", sig := { parameters := [.int, .int, .int, .int], returnType := some .boolean }, accessFlags := 9, code := some k1c1 }
def k1c2 : Code := { maxStack := 6, maxLocals := 9, code := method_3_code, exceptionTable := #[], attributes := #[] }
def k1m2 : Method := { name := "at", desc := "([DIIJJ)Z", sig := { parameters := [(.array .double), .int, .int, .long, .long], returnType := some .boolean }, accessFlags := 10, code := some k1c2 }
/-- com/example/capwright/capwright/premise/ConstantAmountChangeIncomesPinLaw -/
def k1 : Class := { plain "com/example/capwright/capwright/premise/ConstantAmountChangeIncomesPinLaw" (some 0) with
  accessFlags := 49
  interfaces := #[]
  cf := some (fileOf pool1 17 #[] #[{ accessFlags := 2, nameIndex := 5, descriptorIndex := 6, attributes := #[] }, { accessFlags := 9, nameIndex := 24, descriptorIndex := 25, attributes := #[] }, { accessFlags := 10, nameIndex := 20, descriptorIndex := 21, attributes := #[] }] 49 2 #[] #[])
  fields := #[]
  methods := #[k1m0, k1m1, k1m2]
  instanceTypes := #[]
  staticTypes := #[]
  resolved := Array.replicate 31 none
  statics := none }

def pool2 : Array CpInfo := pool [(1, .methodref 2 3), (0, .class_ 4), (0, .nameAndType 5 6), (0, u "java/lang/Object"), (0, u "<init>"), (0, u "()V"), (0, .class_ 8), (0, u "java/lang/Record")] 13

def k2c0 : Code := { maxStack := 1, maxLocals := 1, code := jdk_30_method_1_code, exceptionTable := #[], attributes := #[] }
def k2m0 : Method := { name := "<init>", desc := "()V", sig := { parameters := [], returnType := none }, accessFlags := 4, code := some k2c0 }
/-- java/lang/Record -/
def k2 : Class := { plain "java/lang/Record" (some 0) with
  accessFlags := 1057
  interfaces := #[]
  cf := some (fileOf pool2 7 #[] #[{ accessFlags := 4, nameIndex := 5, descriptorIndex := 6, attributes := #[] }] 1057 2 #[] #[])
  fields := #[]
  methods := #[k2m0]
  instanceTypes := #[]
  staticTypes := #[]
  resolved := Array.replicate 22 none
  statics := none }

def pool3 : Array CpInfo := pool [(1, .methodref 2 3), (0, .class_ 4), (0, .nameAndType 5 6), (0, u "java/lang/Record"), (0, u "<init>"), (0, u "()V"), (0, .methodref 8 9), (0, .class_ 10), (0, .nameAndType 11 12), (0, u "com/example/capwright/capwright/premise/Capitalization"), (0, u "requireYears"), (0, u "(I)V"), (0, .methodref 14 15), (0, .class_ 16), (0, .nameAndType 17 18), (0, u "java/lang/Double"), (0, u "isFinite"), (0, u "(D)Z"), (9, .fieldref 29 30), (0, .class_ 31), (0, .nameAndType 32 33), (0, u "com/example/capwright/capwright/premise/ConstantAmountChange"), (0, u "yieldRate"), (0, u "D"), (0, .fieldref 29 35), (0, .nameAndType 36 37), (0, u "years"), (0, u "I"), (0, .fieldref 29 39), (0, .nameAndType 40 33), (0, u "step"), (42, u "incomes"), (0, u "(D)[D"), (30, u "(DID)V")] 41

def k3c0 : Code := { maxStack := 4, maxLocals := 6, code := prog_72_method_1_code, exceptionTable := #[], attributes := #[] }
def k3m0 : Method := { name := "<init>", desc := "(DID)V", sig := { parameters := [.double, .int, .double], returnType := none }, accessFlags := 1, code := some k3c0 }
def k3c1 : Code := { maxStack := 8, maxLocals := 5, code := prog_72_method_2_code, exceptionTable := #[], attributes := #[] }
def k3m1 : Method := { name := "incomes", desc := "(D)[D", sig := { parameters := [.double], returnType := some (.array .double) }, accessFlags := 1, code := some k3c1 }
/-- com/example/capwright/capwright/premise/ConstantAmountChange -/
def k3 : Class := { plain "com/example/capwright/capwright/premise/ConstantAmountChange" (some 2) with
  accessFlags := 49
  interfaces := #[]
  cf := some (fileOf pool3 29 #[] #[{ accessFlags := 1, nameIndex := 5, descriptorIndex := 115, attributes := #[] }, { accessFlags := 1, nameIndex := 83, descriptorIndex := 84, attributes := #[] }] 49 2 #[] #[{ accessFlags := 18, nameIndex := 32, descriptorIndex := 33, attributes := #[] }, { accessFlags := 18, nameIndex := 36, descriptorIndex := 37, attributes := #[] }, { accessFlags := 18, nameIndex := 40, descriptorIndex := 33, attributes := #[] }])
  fields := #[{ name := "yieldRate", type := .double, accessFlags := 18, slot := 0, constantValue := 0 }, { name := "years", type := .int, accessFlags := 18, slot := 1, constantValue := 0 }, { name := "step", type := .double, accessFlags := 18, slot := 2, constantValue := 0 }]
  methods := #[k3m0, k3m1]
  instanceTypes := #[.double, .int, .double]
  staticTypes := #[]
  resolved := Array.replicate 157 none
  statics := none }

def pool4 : Array CpInfo := pool [(2, .class_ 4), (1, u "java/lang/Record"), (9, u "incomes"), (2, .class_ 19), (1, u "com/example/capwright/capwright/premise/Capitalization"), (0, u "yieldRate"), (0, u "D"), (2, u "overallRate"), (2, u "value"), (2, u "Ljava/util/List;"), (2, u "resale"), (41, u "requireYears"), (0, u "(I)V")] 42

def k4c0 : Code := { maxStack := 3, maxLocals := 1, code := prog_70_method_3_code, exceptionTable := #[], attributes := #[] }
def k4m0 : Method := { name := "requireYears", desc := "(I)V", sig := { parameters := [.int], returnType := none }, accessFlags := 8, code := some k4c0 }
/-- com/example/capwright/capwright/premise/Capitalization -/
def k4 : Class := { plain "com/example/capwright/capwright/premise/Capitalization" (some 2) with
  accessFlags := 49
  interfaces := #[]
  cf := some (fileOf pool4 17 #[] #[{ accessFlags := 8, nameIndex := 75, descriptorIndex := 76, attributes := #[] }] 49 2 #[] #[{ accessFlags := 18, nameIndex := 20, descriptorIndex := 21, attributes := #[] }, { accessFlags := 18, nameIndex := 24, descriptorIndex := 21, attributes := #[] }, { accessFlags := 18, nameIndex := 27, descriptorIndex := 21, attributes := #[] }, { accessFlags := 18, nameIndex := 14, descriptorIndex := 30, attributes := #[] }, { accessFlags := 18, nameIndex := 33, descriptorIndex := 21, attributes := #[] }])
  fields := #[{ name := "yieldRate", type := .double, accessFlags := 18, slot := 0, constantValue := 0 }, { name := "overallRate", type := .double, accessFlags := 18, slot := 1, constantValue := 0 }, { name := "value", type := .double, accessFlags := 18, slot := 2, constantValue := 0 }, { name := "incomes", type := (.object "java/util/List"), accessFlags := 18, slot := 3, constantValue := 0 }, { name := "resale", type := .double, accessFlags := 18, slot := 4, constantValue := 0 }]
  methods := #[k4m0]
  instanceTypes := #[.double, .double, .double, (.object "java/util/List"), .double]
  staticTypes := #[]
  resolved := Array.replicate 119 none
  statics := none }

def pool5 : Array CpInfo := pool [(1, .class_ 2), (0, u "java/io/Serializable"), (0, .class_ 4), (0, u "java/lang/Object")] 2

/-- java/io/Serializable -/
def k5 : Class := { plain "java/io/Serializable" (some 0) with
  accessFlags := 1537
  interfaces := #[]
  cf := some (fileOf pool5 1 #[] #[] 1537 3 #[] #[])
  fields := #[]
  methods := #[]
  instanceTypes := #[]
  staticTypes := #[]
  resolved := Array.replicate 7 none
  statics := none }

def pool6 : Array CpInfo := pool [(2, .class_ 4), (1, u "java/lang/Object"), (0, u "<init>"), (0, u "()V"), (1, .class_ 10), (1, u "java/lang/Number"), (2, .class_ 14), (0, u "java/io/Serializable"), (0, u "serialVersionUID"), (0, u "J")] 20

def k6m0 : Method := { name := "<init>", desc := "()V", sig := { parameters := [], returnType := none }, accessFlags := 1, code := none }
/-- java/lang/Number -/
def k6 : Class := { plain "java/lang/Number" (some 0) with
  accessFlags := 1057
  interfaces := #[5]
  cf := some (fileOf pool6 8 #[] #[{ accessFlags := 1, nameIndex := 5, descriptorIndex := 6, attributes := #[] }] 1057 2 #[13] #[{ accessFlags := 26, nameIndex := 15, descriptorIndex := 16, attributes := #[] }])
  fields := #[{ name := "serialVersionUID", type := .long, accessFlags := 26, slot := 0, constantValue := 0 }]
  methods := #[k6m0]
  instanceTypes := #[]
  staticTypes := #[.long]
  resolved := Array.replicate 37 none
  statics := none }

def pool7 : Array CpInfo := pool [(1, .class_ 2), (0, u "java/lang/Comparable"), (0, .class_ 4), (0, u "java/lang/Object")] 7

/-- java/lang/Comparable -/
def k7 : Class := { plain "java/lang/Comparable" (some 0) with
  accessFlags := 1537
  interfaces := #[]
  cf := some (fileOf pool7 1 #[] #[] 1537 3 #[] #[])
  fields := #[]
  methods := #[]
  instanceTypes := #[]
  staticTypes := #[]
  resolved := Array.replicate 12 none
  statics := none }

def pool8 : Array CpInfo := pool [(1, .class_ 2), (0, u "java/lang/constant/Constable"), (0, .class_ 4), (0, u "java/lang/Object")] 6

/-- java/lang/constant/Constable -/
def k8 : Class := { plain "java/lang/constant/Constable" (some 0) with
  accessFlags := 1537
  interfaces := #[]
  cf := some (fileOf pool8 1 #[] #[] 1537 3 #[] #[])
  fields := #[]
  methods := #[]
  instanceTypes := #[]
  staticTypes := #[]
  resolved := Array.replicate 11 none
  statics := none }

def pool9 : Array CpInfo := pool [(1, .class_ 2), (0, u "java/lang/constant/ConstantDesc"), (0, .class_ 4), (0, u "java/lang/Object")] 32

/-- java/lang/constant/ConstantDesc -/
def k9 : Class := { plain "java/lang/constant/ConstantDesc" (some 0) with
  accessFlags := 1537
  interfaces := #[]
  cf := some (fileOf pool9 1 #[] #[] 1537 3 #[] #[])
  fields := #[]
  methods := #[]
  instanceTypes := #[]
  staticTypes := #[]
  resolved := Array.replicate 37 none
  statics := none }

def pool10 : Array CpInfo := pool [(1, .class_ 2), (0, u "java/lang/Double"), (10, u "isFinite"), (0, u "(D)Z"), (8, .class_ 25), (1, u "java/lang/Math"), (12, .methodref 23 39), (0, .nameAndType 40 41), (0, u "abs"), (0, u "(D)D"), (69, .double 9218868437227405311), (2, .class_ 116), (1, u "java/lang/Number"), (3, u "value"), (0, u "D"), (51, u "TYPE"), (0, u "Ljava/lang/Class;"), (0, .class_ 176), (0, u "java/lang/Comparable"), (0, .class_ 178), (0, u "java/lang/constant/Constable"), (0, .class_ 180), (0, u "java/lang/constant/ConstantDesc"), (0, u "POSITIVE_INFINITY"), (3, u "NEGATIVE_INFINITY"), (2, u "NaN"), (2, u "MAX_VALUE"), (0, u "MIN_NORMAL"), (0, u "MIN_VALUE"), (2, u "SIZE"), (0, u "I"), (1, u "PRECISION"), (1, u "MAX_EXPONENT"), (1, u "MIN_EXPONENT"), (1, u "BYTES"), (3, u "serialVersionUID"), (0, u "J")] 79

def k10c0 : Code := { maxStack := 4, maxLocals := 2, code := jdk_117_method_8_code, exceptionTable := #[], attributes := #[] }
def k10m0 : Method := { name := "isFinite", desc := "(D)Z", sig := { parameters := [.double], returnType := some .boolean }, accessFlags := 9, code := some k10c0 }
/-- java/lang/Double -/
def k10 : Class := { plain "java/lang/Double" (some 6) with
  accessFlags := 49
  interfaces := #[7, 8, 9]
  cf := some (fileOf pool10 1 #[] #[{ accessFlags := 9, nameIndex := 13, descriptorIndex := 14, attributes := #[] }] 49 114 #[175, 177, 179] #[{ accessFlags := 25, nameIndex := 181, descriptorIndex := 121, attributes := #[] }, { accessFlags := 25, nameIndex := 185, descriptorIndex := 121, attributes := #[] }, { accessFlags := 25, nameIndex := 188, descriptorIndex := 121, attributes := #[] }, { accessFlags := 25, nameIndex := 191, descriptorIndex := 121, attributes := #[] }, { accessFlags := 25, nameIndex := 192, descriptorIndex := 121, attributes := #[] }, { accessFlags := 25, nameIndex := 193, descriptorIndex := 121, attributes := #[] }, { accessFlags := 25, nameIndex := 196, descriptorIndex := 197, attributes := #[] }, { accessFlags := 25, nameIndex := 199, descriptorIndex := 197, attributes := #[] }, { accessFlags := 25, nameIndex := 201, descriptorIndex := 197, attributes := #[] }, { accessFlags := 25, nameIndex := 203, descriptorIndex := 197, attributes := #[] }, { accessFlags := 25, nameIndex := 205, descriptorIndex := 197, attributes := #[] }, { accessFlags := 25, nameIndex := 173, descriptorIndex := 174, attributes := #[] }, { accessFlags := 18, nameIndex := 120, descriptorIndex := 121, attributes := #[] }, { accessFlags := 26, nameIndex := 209, descriptorIndex := 210, attributes := #[] }])
  fields := #[{ name := "POSITIVE_INFINITY", type := .double, accessFlags := 25, slot := 0, constantValue := 0 }, { name := "NEGATIVE_INFINITY", type := .double, accessFlags := 25, slot := 1, constantValue := 0 }, { name := "NaN", type := .double, accessFlags := 25, slot := 2, constantValue := 0 }, { name := "MAX_VALUE", type := .double, accessFlags := 25, slot := 3, constantValue := 0 }, { name := "MIN_NORMAL", type := .double, accessFlags := 25, slot := 4, constantValue := 0 }, { name := "MIN_VALUE", type := .double, accessFlags := 25, slot := 5, constantValue := 0 }, { name := "SIZE", type := .int, accessFlags := 25, slot := 6, constantValue := 0 }, { name := "PRECISION", type := .int, accessFlags := 25, slot := 7, constantValue := 0 }, { name := "MAX_EXPONENT", type := .int, accessFlags := 25, slot := 8, constantValue := 0 }, { name := "MIN_EXPONENT", type := .int, accessFlags := 25, slot := 9, constantValue := 0 }, { name := "BYTES", type := .int, accessFlags := 25, slot := 10, constantValue := 0 }, { name := "TYPE", type := (.object "java/lang/Class"), accessFlags := 25, slot := 11, constantValue := 0 }, { name := "value", type := .double, accessFlags := 18, slot := 0, constantValue := 0 }, { name := "serialVersionUID", type := .long, accessFlags := 26, slot := 12, constantValue := 0 }]
  methods := #[k10m0]
  instanceTypes := #[.double]
  staticTypes := #[.double, .double, .double, .double, .double, .double, .int, .int, .int, .int, .int, (.object "java/lang/Class"), .long]
  resolved := Array.replicate 290 none
  statics := none }

def pool11 : Array CpInfo := pool [(1, .class_ 2), (0, u "java/lang/Math"), (1, .class_ 6), (1, u "java/lang/Object"), (0, u "<init>"), (0, u "()V"), (5, u "(D)D"), (83, .class_ 100), (1, u "java/lang/Math$RandomNumberGeneratorHolder"), (23, u "abs"), (47, u "negativeZeroFloatBits"), (0, u "J"), (2, u "negativeZeroDoubleBits"), (68, u "$assertionsDisabled"), (0, u "Z"), (91, u "twoToTheDoubleScaleDown"), (0, u "D"), (4, u "twoToTheDoubleScaleUp"), (9, u "E"), (3, u "PI"), (2, u "TAU"), (2, u "DEGREES_TO_RADIANS"), (0, u "RADIANS_TO_DEGREES")] 94

def k11m0 : Method := { name := "<init>", desc := "()V", sig := { parameters := [], returnType := none }, accessFlags := 2, code := none }
def k11c1 : Code := { maxStack := 4, maxLocals := 2, code := jdk_29_method_64_code, exceptionTable := #[], attributes := #[] }
def k11m1 : Method := { name := "abs", desc := "(D)D", sig := { parameters := [.double], returnType := some .double }, accessFlags := 9, code := some k11c1 }
/-- java/lang/Math -/
def k11 : Class := { plain "java/lang/Math" (some 0) with
  accessFlags := 49
  interfaces := #[]
  cf := some (fileOf pool11 1 #[.nestMembers #[98]] #[{ accessFlags := 2, nameIndex := 7, descriptorIndex := 8, attributes := #[] }, { accessFlags := 9, nameIndex := 124, descriptorIndex := 14, attributes := #[] }] 49 4 #[] #[{ accessFlags := 25, nameIndex := 354, descriptorIndex := 339, attributes := #[] }, { accessFlags := 25, nameIndex := 358, descriptorIndex := 339, attributes := #[] }, { accessFlags := 25, nameIndex := 361, descriptorIndex := 339, attributes := #[] }, { accessFlags := 26, nameIndex := 364, descriptorIndex := 339, attributes := #[] }, { accessFlags := 26, nameIndex := 365, descriptorIndex := 339, attributes := #[] }, { accessFlags := 26, nameIndex := 172, descriptorIndex := 173, attributes := #[] }, { accessFlags := 26, nameIndex := 176, descriptorIndex := 173, attributes := #[] }, { accessFlags := 8, nameIndex := 344, descriptorIndex := 339, attributes := #[] }, { accessFlags := 8, nameIndex := 338, descriptorIndex := 339, attributes := #[] }, { accessFlags := 4120, nameIndex := 245, descriptorIndex := 246, attributes := #[] }])
  fields := #[{ name := "E", type := .double, accessFlags := 25, slot := 0, constantValue := 0 }, { name := "PI", type := .double, accessFlags := 25, slot := 1, constantValue := 0 }, { name := "TAU", type := .double, accessFlags := 25, slot := 2, constantValue := 0 }, { name := "DEGREES_TO_RADIANS", type := .double, accessFlags := 26, slot := 3, constantValue := 0 }, { name := "RADIANS_TO_DEGREES", type := .double, accessFlags := 26, slot := 4, constantValue := 0 }, { name := "negativeZeroFloatBits", type := .long, accessFlags := 26, slot := 5, constantValue := 0 }, { name := "negativeZeroDoubleBits", type := .long, accessFlags := 26, slot := 6, constantValue := 0 }, { name := "twoToTheDoubleScaleUp", type := .double, accessFlags := 8, slot := 7, constantValue := 0 }, { name := "twoToTheDoubleScaleDown", type := .double, accessFlags := 8, slot := 8, constantValue := 0 }, { name := "$assertionsDisabled", type := .boolean, accessFlags := 4120, slot := 9, constantValue := 0 }]
  methods := #[k11m0, k11m1]
  instanceTypes := #[]
  staticTypes := #[.double, .double, .double, .double, .double, .long, .long, .double, .double, .boolean]
  resolved := Array.replicate 460 none
  statics := none }

def pool12 : Array CpInfo := pool [(1, u "java/lang/Cloneable"), (0, .class_ 1), (0, u "java/lang/Object"), (0, .class_ 3)] 3

/-- java/lang/Cloneable -/
def k12 : Class := { plain "java/lang/Cloneable" (some 0) with
  accessFlags := 1537
  interfaces := #[]
  cf := some (fileOf pool12 2 #[] #[] 1537 4 #[] #[])
  fields := #[]
  methods := #[]
  instanceTypes := #[]
  staticTypes := #[]
  resolved := Array.replicate 8 none
  statics := none }

/-- the primitive byte -/
def k13 : Class := { plain "byte" none with kind := .primitive 'B', accessFlags := 0x411 }
/-- [B -/
def k14 : Class := { plain "[B" (some 0) with kind := .array 13 .byte, interfaces := #[12, 5], accessFlags := 1041 }

/-- the primitive double -/
def k15 : Class := { plain "double" none with kind := .primitive 'D', accessFlags := 0x411 }
/-- [D -/
def k16 : Class := { plain "[D" (some 0) with kind := .array 15 .double, interfaces := #[12, 5], accessFlags := 1041 }

/-- the primitive int -/
def k17 : Class := { plain "int" none with kind := .primitive 'I', accessFlags := 0x411 }
/-- [I -/
def k18 : Class := { plain "[I" (some 0) with kind := .array 17 .int, interfaces := #[12, 5], accessFlags := 1041 }

def heap : Heap := #[]
def classes : Array Class := #[k0, k1, k2, k3, k4, k5, k6, k7, k8, k9, k10, k11, k12, k13, k14, k15, k16, k17, k18]
def interned : List (Array UInt16 × Addr) := []
def slotsUsed : Nat := 0
def theMethod : MethodId := ⟨1, 1⟩
def args0 : Array Value := #[.int 3, .int 4, .int 5, .int 6]
def aboutOver (below : List Frame) : State where
  vm := { classes := classes, interned := interned.toArray }
  heap := heap
  slotsUsed := slotsUsed
  threads := #[{ frames := .invoking theMethod args0 :: below }]
def below0 : List Frame := [.native { method := ⟨0, 0⟩, args := #[] }]
def about1 : State := aboutOver below0
def p0 : Program := .bare "" "" ""
def e0 : Env := launch0.env 0 0 0
theorem w_frames : about1.frames = Frame.invoking theMethod args0 :: below0 := rfl
set_option maxRecDepth 65536 in
theorem w_args : argsFit about1.vm theMethod args0 = true := by decide +kernel
set_option maxRecDepth 65536 in
theorem w_heap : heapFits about1 = true := by decide +kernel
set_option maxRecDepth 65536 in
theorem w_runnable : about1.curStatus? = some .runnable := by decide +kernel
set_option maxRecDepth 65536 in
theorem w_alone : about1.alone = true := by decide +kernel
set_option maxRecDepth 65536 in
theorem w_named : about1.methodNamed? x = some theMethod := by decide +kernel
set_option maxRecDepth 65536 in
theorem w_hears : about1.hears theMethod below0 = true := by decide +kernel
set_option maxRecDepth 65536 in
theorem w_ripe : about1.ripe theMethod args0 below0 = true := by decide +kernel
theorem w_running : about1.status = .running := rfl
set_option maxRecDepth 65536 in
theorem w_room : about1.hasRoom e0.platform room_1 = true :=
  launch0.hasRoom_least _ room_1 (by decide +kernel) (by decide +kernel) (by decide +kernel) (by decide +kernel) (by decide +kernel) (by decide +kernel)
theorem allAtoms_all (ts : List Jvm.Cond) (a : Array Jvm.Value) (st : Jvm.State) : (allAtoms ts).before a st = ts.all (fun c => c.before a st) := by
  induction ts with
  | nil => rfl
  | cons c t ih =>
    show (Jvm.Cond.and c (allAtoms t)).before a st = _
    rw [Jvm.Cond.before_and, ih, List.all_cons]
def words1 : List Jvm.Cond := Jvm.Cond.code x code maxLocals ret :: tables_1
/-- a 'code' word, met by the world's own term for the bytes: nothing is compared byte by byte -/
theorem code_word {y : MethodName} {bytes : ByteArray} {mx : Nat} {rt : Option FieldType} {a : Array Value} {s : State} {m : MethodId} {meth : Method} {c : Code} (h1 : s.methodNamed? y = some m) (h2 : s.vm.method? m = some meth) (h3 : meth.code = some c) (h4 : c.code = bytes)
    (h5 : (c.maxLocals == mx && c.exceptionTable.isEmpty && decide (c.maxStack ≤ mostOperands) && decide (meth.sig.returnType = rt) && !meth.locks && decide (parseMethodDescriptor y.desc = some meth.sig)) = true) : (Jvm.Cond.code y bytes mx rt).before a s = true := by
  simp only [Bool.and_eq_true, beq_iff_eq, Bool.not_eq_true', decide_eq_true_eq] at h5
  obtain ⟨⟨⟨⟨⟨g1, g2⟩, g3⟩, g4⟩, g5⟩, g6⟩ := h5
  simp [Cond.before, Cond.holds, Cond.value, h1, h2, h3, h4, g1, g2, g3, g4, g5, g6]
def isCode : Jvm.Cond → Bool
  | .code _ _ _ _ => true
  | _ => false
theorem all_split {L : List Jvm.Cond} {P : Jvm.Cond → Bool} (h1 : L.all (fun c => isCode c || P c) = true) (h2 : ∀ c ∈ L.filter isCode, P c = true) : L.all P = true := by
  refine List.all_eq_true.mpr fun c hc => ?_
  have h := List.all_eq_true.mp h1 c hc
  rcases Bool.eq_false_or_eq_true (isCode c) with hi | hi
  · exact h2 c (List.mem_filter.mpr ⟨hc, hi⟩)
  · simpa [hi] using h
set_option maxRecDepth 65536 in
theorem w_c0 : (Jvm.Cond.code x code maxLocals ret).before args0 about1 = true := code_word (m := ⟨1, 1⟩) (meth := k1m1) (c := k1c1) (by decide +kernel) rfl rfl rfl (by decide +kernel)
set_option maxRecDepth 65536 in
theorem w_c1 : (Jvm.Cond.code ({ cls := "com/example/capwright/capwright/premise/ConstantAmountChange", name := "<init>", desc := "(DID)V" } : Jvm.MethodName) prog_72_method_1_code (6 : Nat) (Option.none : Option Jvm.ClassFile.FieldType)).before args0 about1 = true := code_word (m := ⟨3, 0⟩) (meth := k3m0) (c := k3c0) (by decide +kernel) rfl rfl rfl (by decide +kernel)
set_option maxRecDepth 65536 in
theorem w_c2 : (Jvm.Cond.code ({ cls := "java/lang/Record", name := "<init>", desc := "()V" } : Jvm.MethodName) jdk_30_method_1_code (1 : Nat) (Option.none : Option Jvm.ClassFile.FieldType)).before args0 about1 = true := code_word (m := ⟨2, 0⟩) (meth := k2m0) (c := k2c0) (by decide +kernel) rfl rfl rfl (by decide +kernel)
set_option maxRecDepth 65536 in
theorem w_c3 : (Jvm.Cond.code ({ cls := "java/lang/Object", name := "<init>", desc := "()V" } : Jvm.MethodName) object_method_1_code (1 : Nat) (Option.none : Option Jvm.ClassFile.FieldType)).before args0 about1 = true := code_word (m := ⟨0, 0⟩) (meth := k0m0) (c := k0c0) (by decide +kernel) rfl rfl rfl (by decide +kernel)
set_option maxRecDepth 65536 in
theorem w_c4 : (Jvm.Cond.code ({ cls := "com/example/capwright/capwright/premise/Capitalization", name := "requireYears", desc := "(I)V" } : Jvm.MethodName) prog_70_method_3_code (1 : Nat) (Option.none : Option Jvm.ClassFile.FieldType)).before args0 about1 = true := code_word (m := ⟨4, 0⟩) (meth := k4m0) (c := k4c0) (by decide +kernel) rfl rfl rfl (by decide +kernel)
set_option maxRecDepth 65536 in
theorem w_c5 : (Jvm.Cond.code ({ cls := "java/lang/Double", name := "isFinite", desc := "(D)Z" } : Jvm.MethodName) jdk_117_method_8_code (2 : Nat) (Option.some Jvm.ClassFile.FieldType.boolean)).before args0 about1 = true := code_word (m := ⟨10, 0⟩) (meth := k10m0) (c := k10c0) (by decide +kernel) rfl rfl rfl (by decide +kernel)
set_option maxRecDepth 65536 in
theorem w_c6 : (Jvm.Cond.code ({ cls := "java/lang/Math", name := "abs", desc := "(D)D" } : Jvm.MethodName) jdk_29_method_64_code (2 : Nat) (Option.some Jvm.ClassFile.FieldType.double)).before args0 about1 = true := code_word (m := ⟨11, 1⟩) (meth := k11m1) (c := k11c1) (by decide +kernel) rfl rfl rfl (by decide +kernel)
set_option maxRecDepth 65536 in
theorem w_c7 : (Jvm.Cond.code ({ cls := "com/example/capwright/capwright/premise/ConstantAmountChange", name := "incomes", desc := "(D)[D" } : Jvm.MethodName) prog_72_method_2_code (5 : Nat) (Option.some (Jvm.ClassFile.FieldType.array Jvm.ClassFile.FieldType.double))).before args0 about1 = true := code_word (m := ⟨3, 1⟩) (meth := k3m1) (c := k3c1) (by decide +kernel) rfl rfl rfl (by decide +kernel)
set_option maxRecDepth 65536 in
theorem w_c8 : (Jvm.Cond.code ({ cls := "com/example/capwright/capwright/premise/ConstantAmountChangeIncomesPinLaw", name := "at", desc := "([DIIJJ)Z" } : Jvm.MethodName) method_3_code (9 : Nat) (Option.some Jvm.ClassFile.FieldType.boolean)).before args0 about1 = true := code_word (m := ⟨1, 2⟩) (meth := k1m2) (c := k1c2) (by decide +kernel) rfl rfl rfl (by decide +kernel)
def codes1 : List Jvm.Cond := [Jvm.Cond.code x code maxLocals ret, Jvm.Cond.code ({ cls := "com/example/capwright/capwright/premise/ConstantAmountChange", name := "<init>", desc := "(DID)V" } : Jvm.MethodName) prog_72_method_1_code (6 : Nat) (Option.none : Option Jvm.ClassFile.FieldType), Jvm.Cond.code ({ cls := "java/lang/Record", name := "<init>", desc := "()V" } : Jvm.MethodName) jdk_30_method_1_code (1 : Nat) (Option.none : Option Jvm.ClassFile.FieldType), Jvm.Cond.code ({ cls := "java/lang/Object", name := "<init>", desc := "()V" } : Jvm.MethodName) object_method_1_code (1 : Nat) (Option.none : Option Jvm.ClassFile.FieldType), Jvm.Cond.code ({ cls := "com/example/capwright/capwright/premise/Capitalization", name := "requireYears", desc := "(I)V" } : Jvm.MethodName) prog_70_method_3_code (1 : Nat) (Option.none : Option Jvm.ClassFile.FieldType), Jvm.Cond.code ({ cls := "java/lang/Double", name := "isFinite", desc := "(D)Z" } : Jvm.MethodName) jdk_117_method_8_code (2 : Nat) (Option.some Jvm.ClassFile.FieldType.boolean), Jvm.Cond.code ({ cls := "java/lang/Math", name := "abs", desc := "(D)D" } : Jvm.MethodName) jdk_29_method_64_code (2 : Nat) (Option.some Jvm.ClassFile.FieldType.double), Jvm.Cond.code ({ cls := "com/example/capwright/capwright/premise/ConstantAmountChange", name := "incomes", desc := "(D)[D" } : Jvm.MethodName) prog_72_method_2_code (5 : Nat) (Option.some (Jvm.ClassFile.FieldType.array Jvm.ClassFile.FieldType.double)), Jvm.Cond.code ({ cls := "com/example/capwright/capwright/premise/ConstantAmountChangeIncomesPinLaw", name := "at", desc := "([DIIJJ)Z" } : Jvm.MethodName) method_3_code (9 : Nat) (Option.some Jvm.ClassFile.FieldType.boolean)]
set_option maxRecDepth 65536 in
theorem codes_eq : words1.filter isCode = codes1 := rfl
theorem w_codes : ∀ c ∈ words1.filter isCode, c.before args0 about1 = true := by
  rw [codes_eq]
  intro c hc
  simp only [codes1, List.mem_cons, List.not_mem_nil, or_false] at hc
  rcases hc with rfl | rfl | rfl | rfl | rfl | rfl | rfl | rfl | rfl
  · exact w_c0
  · exact w_c1
  · exact w_c2
  · exact w_c3
  · exact w_c4
  · exact w_c5
  · exact w_c6
  · exact w_c7
  · exact w_c8
set_option maxRecDepth 65536 in
theorem w_t1 : (words1.take 24).all (fun c => isCode c || c.before args0 about1) = true := by decide +kernel
set_option maxRecDepth 65536 in
theorem w_t2 : (words1.drop 24).all (fun c => isCode c || c.before args0 about1) = true := by decide +kernel
theorem w_tables : (allAtoms (Jvm.Cond.code x code maxLocals ret :: tables_1)).before args0 about1 = true := by
  rw [allAtoms_all]
  show words1.all (fun c => c.before args0 about1) = true
  refine all_split ?_ w_codes
  rw [← List.take_append_drop 24 words1, List.all_append, w_t1, w_t2]
  rfl
set_option maxRecDepth 65536 in
theorem w_case : (Jvm.Cond.and given_1 narrow_1).before args0 about1 = true := by decide +kernel
theorem w_applies : (headSpec (Jvm.Cond.code x code maxLocals ret :: tables_1) room_1).applies x e0.platform about1 = true :=
  (Spec.applies_iff w_frames).mpr ⟨w_running, w_runnable, w_alone, w_named, w_hears, w_ripe, w_room, w_tables⟩
theorem atStart : AtStart classFile x code maxLocals ret World_1 tables_1 room_1 Calls_1 rest_1 Pre_1 launch0 p0 e0 about1 theMethod args0 below0 :=
  ⟨lists_1, trivial, launch0.admits_env _ _ _, launch0.least_env, fairChoices_fair.cas, fairChoices_fair.clock, w_frames, w_args, w_heap, w_applies, trivial, trivial, w_case⟩
end start1
theorem witness_1 : WitnessClaimed_1 := ⟨start1.p0, start1.e0, start1.about1, start1.theMethod, start1.args0, start1.below0, start1.atStart⟩
end Jvm.Pilot.@@N@@
