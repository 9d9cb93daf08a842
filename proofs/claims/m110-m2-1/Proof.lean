import JvmDerived
import JvmDerived.Pilot.@@N@@Statement
import JvmDerived.Pilot.@@N@@Code
set_option linter.unusedVariables false
set_option linter.unusedSimpArgs false
@@BLOCK:NumsL.lean.txt@@
namespace Jvm.Pilot.@@N@@
open Jvm Jvm.ClassFile Sem Op Lib Jvm.Free Jvm.Stand Jvm.LawKit Jvm.RoadKit Bundle Jvm.Pilot.@@N@@.Jvm.D
open Jvm.Free.Fl (NoNaN64 Fin64 Nz64)
theorem own_lt_ne {a b n : Nat} (h : a < n) (g : b = n) : a ≠ b := by omega
theorem own_lt_ne2 {a b n : Nat} (h : a < n) (g : n ≤ b) : a ≠ b := by omega
theorem own_ge_of {k b n : Nat} (h : k ≤ n) (g : b = n) : k ≤ b := by omega
abbrev uu : Slot := .unset
abbrev ss : Slot := .second
abbrev vi (x : Int32) : Slot := .val (.int x)
abbrev vj (x : Int64) : Slot := .val (.long x)
abbrev vd (x : UInt64) : Slot := .val (.double x)
abbrev vr (x : Addr) : Slot := .val (.ref x)
/-- whatever is reached from here is reached from E -/
abbrev own_G (p : Program) (e : Env) (below : List Frame) (E T : State) (g : JFrame) : Prop := ∀ t, Steps p.tables e below (T.setTop g) t → Steps p.tables e below E t
theorem own_if_eqY {x : Int32} (h : x = 0) : ifCond.holds .eq x = true := by subst h; rfl
theorem own_if_eqN {x : Int32} (h : ¬ x = 0) : ifCond.holds .eq x = false := beq_false_of_ne h
theorem own_if_neY {x : Int32} (h : ¬ x = 0) : ifCond.holds .ne x = true := bne_iff_ne.mpr h
theorem own_if_neN {x : Int32} (h : x = 0) : ifCond.holds .ne x = false := by subst h; rfl
theorem own_if_ltY {x : Int32} (h : x < 0) : ifCond.holds .lt x = true := decide_eq_true h
theorem own_if_ltN {x : Int32} (h : ¬ x < 0) : ifCond.holds .lt x = false := decide_eq_false h
theorem own_if_geY {x : Int32} (h : ¬ x < 0) : ifCond.holds .ge x = true := decide_eq_true (Int32.not_lt.mp h)
theorem own_if_geN {x : Int32} (h : x < 0) : ifCond.holds .ge x = false := decide_eq_false (fun q => Int32.not_le.mpr h q)
theorem own_if_gtY {x : Int32} (h : 0 < x) : ifCond.holds .gt x = true := decide_eq_true h
theorem own_if_gtN {x : Int32} (h : ¬ 0 < x) : ifCond.holds .gt x = false := decide_eq_false h
theorem own_if_leY {x : Int32} (h : ¬ 0 < x) : ifCond.holds .le x = true := decide_eq_true (Int32.not_lt.mp h)
theorem own_if_leN {x : Int32} (h : 0 < x) : ifCond.holds .le x = false := decide_eq_false (fun q => Int32.not_le.mpr h q)
theorem own_ic_eqY {x y : Int32} (h : x = y) : if_icmp.holds .eq x y = true := beq_iff_eq.mpr h
theorem own_ic_eqN {x y : Int32} (h : ¬ x = y) : if_icmp.holds .eq x y = false := beq_false_of_ne h
theorem own_ic_neY {x y : Int32} (h : ¬ x = y) : if_icmp.holds .ne x y = true := bne_iff_ne.mpr h
theorem own_ic_neN {x y : Int32} (h : x = y) : if_icmp.holds .ne x y = false := by subst h; exact bne_self_eq_false x
theorem own_ic_ltY {x y : Int32} (h : x < y) : if_icmp.holds .lt x y = true := decide_eq_true h
theorem own_ic_ltN {x y : Int32} (h : ¬ x < y) : if_icmp.holds .lt x y = false := decide_eq_false h
theorem own_ic_geY {x y : Int32} (h : ¬ x < y) : if_icmp.holds .ge x y = true := decide_eq_true (Int32.not_lt.mp h)
theorem own_ic_geN {x y : Int32} (h : x < y) : if_icmp.holds .ge x y = false := decide_eq_false (fun q => Int32.not_le.mpr h q)
theorem own_ic_gtY {x y : Int32} (h : y < x) : if_icmp.holds .gt x y = true := decide_eq_true h
theorem own_ic_gtN {x y : Int32} (h : ¬ y < x) : if_icmp.holds .gt x y = false := decide_eq_false h
theorem own_ic_leY {x y : Int32} (h : ¬ y < x) : if_icmp.holds .le x y = true := decide_eq_true (Int32.not_lt.mp h)
theorem own_ic_leN {x y : Int32} (h : y < x) : if_icmp.holds .le x y = false := decide_eq_false (fun q => Int32.not_le.mpr h q)
/-- what a comparison of two whole or scaled values pushes -/
def own_c (i j : Int) : Int32 := if i < j then -1 else if i = j then 0 else 1
theorem own_cE (o : CmpOp) {x y : UInt64} {i j : Int} (h : FP.dcmp x y = some (compare i j)) : cmpValue (FP.dcmp x y) o = own_c i j := by
  rw [h, FP.Core.compare_ite, own_c]
  by_cases h1 : i < j
  · rw [if_pos h1, if_pos h1]; cases o <;> rfl
  · rw [if_neg h1, if_neg h1]
    by_cases h2 : i = j
    · rw [if_pos h2, if_pos h2]; cases o <;> rfl
    · rw [if_neg h2, if_neg h2]; cases o <;> rfl
theorem own_c_lt {i j : Int} (h : i < j) : own_c i j = -1 := by rw [own_c, if_pos h]
theorem own_c_eq {i j : Int} (h : i = j) : own_c i j = 0 := by rw [own_c, if_neg (by omega), if_pos h]
theorem own_c_gt {i j : Int} (h : j < i) : own_c i j = 1 := by rw [own_c, if_neg (by omega), if_neg (by omega)]
theorem own_c_cases (i j : Int) : (i < j ∧ own_c i j = -1) ∨ (i = j ∧ own_c i j = 0) ∨ (j < i ∧ own_c i j = 1) := by
  rcases Int.lt_trichotomy i j with h | h | h
  · exact Or.inl ⟨h, own_c_lt h⟩
  · exact Or.inr (Or.inl ⟨h, own_c_eq h⟩)
  · exact Or.inr (Or.inr ⟨h, own_c_gt h⟩)
theorem own_c_ltY {i j : Int} (h : i < j) : ifCond.holds .lt (own_c i j) = true := by rw [own_c_lt h]; rfl
theorem own_c_ltN {i j : Int} (h : ¬ i < j) : ifCond.holds .lt (own_c i j) = false := by rcases own_c_cases i j with q | q | q <;> first | exact absurd q.1 h | (rw [q.2]; rfl)
theorem own_c_geY {i j : Int} (h : ¬ i < j) : ifCond.holds .ge (own_c i j) = true := by rcases own_c_cases i j with q | q | q <;> first | exact absurd q.1 h | (rw [q.2]; rfl)
theorem own_c_geN {i j : Int} (h : i < j) : ifCond.holds .ge (own_c i j) = false := by rw [own_c_lt h]; rfl
theorem own_c_gtY {i j : Int} (h : j < i) : ifCond.holds .gt (own_c i j) = true := by rw [own_c_gt h]; rfl
theorem own_c_gtN {i j : Int} (h : ¬ j < i) : ifCond.holds .gt (own_c i j) = false := by rcases own_c_cases i j with q | q | q <;> first | exact absurd q.1 h | (rw [q.2]; rfl)
theorem own_c_leY {i j : Int} (h : ¬ j < i) : ifCond.holds .le (own_c i j) = true := by rcases own_c_cases i j with q | q | q <;> first | exact absurd q.1 h | (rw [q.2]; rfl)
theorem own_c_leN {i j : Int} (h : j < i) : ifCond.holds .le (own_c i j) = false := by rw [own_c_gt h]; rfl
theorem own_c_eqY {i j : Int} (h : i = j) : ifCond.holds .eq (own_c i j) = true := by rw [own_c_eq h]; rfl
theorem own_c_eqN {i j : Int} (h : ¬ i = j) : ifCond.holds .eq (own_c i j) = false := by rcases own_c_cases i j with q | q | q <;> first | exact absurd q.1 h | (rw [q.2]; rfl)
theorem own_c_neY {i j : Int} (h : ¬ i = j) : ifCond.holds .ne (own_c i j) = true := by rcases own_c_cases i j with q | q | q <;> first | exact absurd q.1 h | (rw [q.2]; rfl)
theorem own_c_neN {i j : Int} (h : i = j) : ifCond.holds .ne (own_c i j) = false := by rw [own_c_eq h]; rfl
theorem own_l_lt {i j : Int64} (h : i < j) : XT.cmpL i j = -1 := by
  rw [XT.cmpL, if_neg (fun q => Int64.lt_irrefl (Int64.lt_trans h q)), if_neg (fun q => Int64.lt_irrefl (q ▸ h))]
theorem own_l_eq {i j : Int64} (h : i = j) : XT.cmpL i j = 0 := by subst h; rw [XT.cmpL, if_neg Int64.lt_irrefl, if_pos rfl]
theorem own_l_gt {i j : Int64} (h : j < i) : XT.cmpL i j = 1 := by rw [XT.cmpL, if_pos h]
theorem own_l_cases (i j : Int64) : (i < j ∧ XT.cmpL i j = -1) ∨ (i = j ∧ XT.cmpL i j = 0) ∨ (j < i ∧ XT.cmpL i j = 1) := by
  by_cases h : i < j
  · exact Or.inl ⟨h, own_l_lt h⟩
  · by_cases h2 : i = j
    · exact Or.inr (Or.inl ⟨h2, own_l_eq h2⟩)
    · have h3 : j < i := by
        rw [Int64.lt_iff_toInt_lt] at h ⊢
        have h4 : i.toInt ≠ j.toInt := fun q => h2 (Int64.toInt_inj.mp q)
        omega
      exact Or.inr (Or.inr ⟨h3, own_l_gt h3⟩)
theorem own_l_ltY {i j : Int64} (h : i < j) : ifCond.holds .lt (XT.cmpL i j) = true := by rw [own_l_lt h]; rfl
theorem own_l_ltN {i j : Int64} (h : ¬ i < j) : ifCond.holds .lt (XT.cmpL i j) = false := by rcases own_l_cases i j with q | q | q <;> first | exact absurd q.1 h | (rw [q.2]; rfl)
theorem own_l_geY {i j : Int64} (h : ¬ i < j) : ifCond.holds .ge (XT.cmpL i j) = true := by rcases own_l_cases i j with q | q | q <;> first | exact absurd q.1 h | (rw [q.2]; rfl)
theorem own_l_geN {i j : Int64} (h : i < j) : ifCond.holds .ge (XT.cmpL i j) = false := by rw [own_l_lt h]; rfl
theorem own_l_gtY {i j : Int64} (h : j < i) : ifCond.holds .gt (XT.cmpL i j) = true := by rw [own_l_gt h]; rfl
theorem own_l_gtN {i j : Int64} (h : ¬ j < i) : ifCond.holds .gt (XT.cmpL i j) = false := by rcases own_l_cases i j with q | q | q <;> first | exact absurd q.1 h | (rw [q.2]; rfl)
theorem own_l_leY {i j : Int64} (h : ¬ j < i) : ifCond.holds .le (XT.cmpL i j) = true := by rcases own_l_cases i j with q | q | q <;> first | exact absurd q.1 h | (rw [q.2]; rfl)
theorem own_l_leN {i j : Int64} (h : j < i) : ifCond.holds .le (XT.cmpL i j) = false := by rw [own_l_gt h]; rfl
theorem own_l_eqY {i j : Int64} (h : i = j) : ifCond.holds .eq (XT.cmpL i j) = true := by rw [own_l_eq h]; rfl
theorem own_l_eqN {i j : Int64} (h : ¬ i = j) : ifCond.holds .eq (XT.cmpL i j) = false := by rcases own_l_cases i j with q | q | q <;> first | exact absurd q.1 h | (rw [q.2]; rfl)
theorem own_l_neY {i j : Int64} (h : ¬ i = j) : ifCond.holds .ne (XT.cmpL i j) = true := by rcases own_l_cases i j with q | q | q <;> first | exact absurd q.1 h | (rw [q.2]; rfl)
theorem own_l_neN {i j : Int64} (h : i = j) : ifCond.holds .ne (XT.cmpL i j) = false := by rw [own_l_eq h]; rfl
theorem own_ac_eq_Y {x y : Value} (h : x = y) : XT.acmp .eq x y = true := decide_eq_true h
theorem own_ac_eq_N {x y : Value} (h : ¬ x = y) : XT.acmp .eq x y = false := decide_eq_false h
theorem own_ac_ne_Y {x y : Value} (h : ¬ x = y) : XT.acmp .ne x y = true := decide_eq_true h
theorem own_ac_ne_N {x y : Value} (h : x = y) : XT.acmp .ne x y = false := decide_eq_false (fun q => q h)
theorem own_ar_eq_Y {x y : Addr} (h : x = y) : XT.acmp .eq (.ref x) (.ref y) = true := own_ac_eq_Y (congrArg Value.ref h)
theorem own_ar_eq_N {x y : Addr} (h : ¬ x = y) : XT.acmp .eq (.ref x) (.ref y) = false := own_ac_eq_N (fun q => h (Value.ref.inj q))
theorem own_ar_ne_Y {x y : Addr} (h : ¬ x = y) : XT.acmp .ne (.ref x) (.ref y) = true := own_ac_ne_Y (fun q => h (Value.ref.inj q))
theorem own_ar_ne_N {x y : Addr} (h : x = y) : XT.acmp .ne (.ref x) (.ref y) = false := own_ac_ne_N (congrArg Value.ref h)
/-- a static's object's field that the case names by a number -/
theorem own_ord {args : Array Value} {s : State} {t : Term} {C n d : String} {k : Int32} {x : Addr} (ev : t.eval args s none [] s = some (.ref x))
    (h : (Jvm.Cond.eq (Term.field t C n d) (Term.int k)).value args s none s [] = some true) : s.fieldOf? x C n d = some (.int k) := by
  obtain ⟨v, u, e1, e2, k1, k2⟩ := cmp_v (Or.inl h)
  have e3 : u = .int k := by have := (Term.int_eval (args := args) (first := s) (o := none) (idx := []) (s := s) k).symm.trans e2; exact (Option.some.inj this).symm
  subst e3
  obtain ⟨z, rfl⟩ := k2
  have q := gotT (Cond.eq_ints e1 e2) h
  rw [← fld_at ev, e1, q]
end Jvm.Pilot.@@N@@
/- laws to paste: Road.backV (cut by pick.py; bodies as the Statement names them) -/
namespace Jvm.Pilot.@@N@@
namespace StrChars
open Jvm Sem ClassFile Op Lib Jvm.Stand Jvm.Free.XT Jvm.Free.ALB Jvm.Free.JM Jvm.Free
open Jvm.Lib.Cold (StaticIs)
/-- a char array whose places are chars -/
def Ch (a : Addr) (A : Cell) (U : State) : Prop := Arr .char a A U ∧ Typed .char A
theorem Ch.mv {a : Addr} {A : Cell} {U U' : State} (h : Ch a A U) (hal : U.vm.Alike U'.vm) (hh : U'.heap = U.heap) : Ch a A U' := ⟨h.1.mv hal hh, h.2⟩
theorem Ch.keep {a : Addr} {A : Cell} {U U' : State} (h : Ch a A U) (hal : U.vm.Alike U'.vm) (hk : U'.heap[a]? = some A) : Ch a A U' := ⟨h.1.keep hal hk, h.2⟩
/-- what place i of a char[]'s cell holds -/
def cv (A : Cell) (i : Nat) : Int32 := match A.slots[i]? with | some (.int x) => x | _ => 0
theorem Ch.get {a : Addr} {A : Cell} {U : State} (h : Ch a A U) {i : Nat} (hi : i < A.slots.size) : A.slots[i]? = some (.int (cv A i)) := by
  have e := Array.getElem?_eq_getElem hi
  have f := h.2 i _ e
  unfold cv; rw [e]
  generalize A.slots[i] = v at f
  cases v <;> simp [fits] at f ⊢
/-- the byte that i2b leaves of a char -/
def lo8 (x : Int32) : Int32 := x.toInt8.toInt32
theorem fits_lo8 (y : Int32) : fits .byte (.int (lo8 y)) = true := by
  have h1 := y.toInt8.le_toInt
  have h2 := y.toInt8.toInt_lt
  simp only [lo8, fits, Bool.and_eq_true, decide_eq_true_eq, Int32.le_iff_toInt_le, Int8.toInt_toInt32, show (-128 : Int32).toInt = -128 from by decide, show (127 : Int32).toInt = 127 from by decide]
  omega
/-- A' is A but that each place j of lo .. hi - 1 holds f j -/
def Laid (A A' : Cell) (lo hi : Nat) (f : Nat → Value) : Prop := A'.cls = A.cls ∧ A'.vm = A.vm ∧ A'.slots.size = A.slots.size ∧ ∀ i, A'.slots[i]? = if lo ≤ i ∧ i < hi then some (f i) else A.slots[i]?
theorem Laid.zero (A : Cell) (lo : Nat) (f : Nat → Value) : Laid A A lo (lo + 0) f := ⟨rfl, rfl, rfl, fun i => by rw [if_neg (by omega)]⟩
theorem Laid.step {A Ak : Cell} {lo k : Nat} {f : Nat → Value} {v : Value} (h : Laid A Ak lo k f) (hlo : lo ≤ k) (hk : k < Ak.slots.size) (hv : v = f k) : Laid A (Ak.setSlot k v) lo (k + 1) f := by
  refine ⟨h.1, h.2.1, by simpa [Cell.setSlot] using h.2.2.1, fun i => ?_⟩
  by_cases e : k = i
  · subst e; rw [Cell.slots_setSlot_self v hk, if_pos (by omega), hv]
  · rw [Cell.slots_setSlot_ne v e, h.2.2.2 i]
    by_cases q : lo ≤ i ∧ i < k
    · rw [if_pos q, if_pos (by omega)]
    · rw [if_neg q, if_neg (by omega)]
def U16 : String := "java/lang/StringUTF16"
namespace Cmp5
def yN : MethodName := ⟨"java/lang/StringUTF16", "compress", "([CI[BII)I"⟩
abbrev yB : ByteArray := jdk_52_method_21_code
theorem d0 : decode yB 0 = .ok (.iconst 0, 1) := by decide +kernel
theorem d1 : decode yB 1 = .ok (.istore 5, 2) := by decide +kernel
theorem d3 : decode yB 3 = .ok (.iload 5, 2) := by decide +kernel
theorem d5 : decode yB 5 = .ok (.iload 4, 2) := by decide +kernel
theorem d7 : decode yB 7 = .ok (.if_icmp (.ge) 37, 3) := by decide +kernel
theorem d10 : decode yB 10 = .ok (.aload_n 0, 1) := by decide +kernel
theorem d11 : decode yB 11 = .ok (.iload_n 1, 1) := by decide +kernel
theorem d12 : decode yB 12 = .ok (.caload, 1) := by decide +kernel
theorem d13 : decode yB 13 = .ok (.istore 6, 2) := by decide +kernel
theorem d15 : decode yB 15 = .ok (.iload 6, 2) := by decide +kernel
theorem d17 : decode yB 17 = .ok (.sipush 255, 3) := by decide +kernel
theorem d20 : decode yB 20 = .ok (.if_icmp (.le) 6, 3) := by decide +kernel
theorem d26 : decode yB 26 = .ok (.aload_n 2, 1) := by decide +kernel
theorem d27 : decode yB 27 = .ok (.iload_n 3, 1) := by decide +kernel
theorem d28 : decode yB 28 = .ok (.iload 6, 2) := by decide +kernel
theorem d30 : decode yB 30 = .ok (.i2b, 1) := by decide +kernel
theorem d31 : decode yB 31 = .ok (.bastore, 1) := by decide +kernel
theorem d32 : decode yB 32 = .ok (.iinc 1 1, 3) := by decide +kernel
theorem d35 : decode yB 35 = .ok (.iinc 3 1, 3) := by decide +kernel
theorem d38 : decode yB 38 = .ok (.iinc 5 1, 3) := by decide +kernel
theorem d41 : decode yB 41 = .ok (.goto (-38), 3) := by decide +kernel
theorem d44 : decode yB 44 = .ok (.iload 4, 2) := by decide +kernel
theorem d46 : decode yB 46 = .ok (.ireturn, 1) := by decide +kernel
def site : List Cond := []
def tab : Cond := tabOf yN yB 7 (some .int) site
def P (b : Addr) (A : Cell) (d : Addr) (B : Cell) (o q len : Nat) (args : Array Value) (s : State) : Prop := args = #[.ref b, .int (Int32.ofNat o), .ref d, .int (Int32.ofNat q), .int (Int32.ofNat len)] ∧ Ch b A s ∧ Arr .byte d B s ∧ b ≠ d ∧ o + len ≤ A.slots.size ∧ q + len ≤ B.slots.size ∧ ∀ i, i < len → ¬ 255 < cv A (o + i)
def E (b : Addr) (A : Cell) (d : Addr) (B : Cell) (o q len : Nat) (r : Option Value) (s u : State) : Prop := r = some (.int (Int32.ofNat len)) ∧ ∃ B', Put d B' s u ∧ Laid B B' q (q + len) (fun j => Value.int (lo8 (cv A (o + (j - q)))))
/-- no char of the range above 255: len; the places written hold each char's low byte -/
theorem law (l : Launch) (b : Addr) (A : Cell) (d : Addr) (B : Cell) (o q len : Nat) : Law l yN 5 5 0 0 yB 7 (some .int) site (P b A d B o q len) (E b A d B o q len) (copyLocs d q len) 0 0 := by
  refine Law.of_walk (plainFor_of_name (by decide +kernel)) (by decide +kernel) (by decide +kernel) (by decide) (fun _ _ h => by rw [h.1]; rfl) (fun _ U U' hal hh h => ⟨h.1, h.2.1.mv hal hh, h.2.2.1.mv hal hh, h.2.2.2⟩) (fun r U U' V V' h1 hal h2 h => ⟨h.1, h.2.elim fun B' q => ⟨B', q.1.mv h1 h2, q.2⟩⟩) ?_
  intro p e s m args below meth c s₁ X0 hexec hbytes hml hret hlk hnm hown hh0 W hP
  obtain ⟨rfl, hA, hB, hne, l1, l2, hp⟩ := hP
  have c1 : Steps p.tables e below (s₁.setTop (entryFrame m #[.ref b, .int (Int32.ofNat o), .ref d, .int (Int32.ofNat q), .int (Int32.ofNat len)] 7)) (s₁.setTop (mkF m 0 #[.val (.ref b), .val (.int (Int32.ofNat o)), .val (.ref d), .val (.int (Int32.ofNat q)), .val (.int (Int32.ofNat len)), .unset, .unset] [])) := entry rfl
  have hA0 := hA.1.mv X0.warmed.alike hh0
  have hB0 := hB.mv X0.warmed.alike hh0
  have a31 := hA.1.2.2.2
  have c2 : Steps p.tables e below (s₁.setTop (entryFrame m #[.ref b, .int (Int32.ofNat o), .ref d, .int (Int32.ofNat q), .int (Int32.ofNat len)] 7)) (s₁.setTop (mkF m 3 #[.val (.ref b), .val (.int (Int32.ofNat o)), .val (.ref d), .val (.int (Int32.ofNat q)), .val (.int (Int32.ofNat len)), .val (.int 0), .unset] [])) := c1.trans (by
    refine iconstV X0.here hexec rfl 0 (hb hbytes d0) (by decide) ?_
    refine XS.istore X0.here hexec rfl (hb hbytes d1) rfl rfl ?_
    exact Steps.refl _)
  have loop : ∀ (r i : Nat), i + r = len → ∀ (z : Slot), (z = .unset ∨ ∃ w, z = .val w ∧ w.category = 1) → ∀ (Tl : State) (Bk : Cell), Stand p l e { frames := 0, locals := 0, cells := 0, slots := 0 } s m #[.ref b, .int (Int32.ofNat o), .ref d, .int (Int32.ofNat q), .int (Int32.ofNat len)] below meth c Tl ([] ++ copyLocs d q i) 0 0 → Put d Bk s₁ Tl → Laid B Bk q (q + i) (fun j => Value.int (lo8 (cv A (o + (j - q))))) →
      Steps p.tables e below (s₁.setTop (entryFrame m #[.ref b, .int (Int32.ofNat o), .ref d, .int (Int32.ofNat q), .int (Int32.ofNat len)] 7)) (Tl.setTop (mkF m 3 #[.val (.ref b), .val (.int (Int32.ofNat (o + i))), .val (.ref d), .val (.int (Int32.ofNat (q + i))), .val (.int (Int32.ofNat len)), .val (.int (Int32.ofNat i)), z] [])) → ∃ (T' : State) (B' : Cell) (z' : Slot), Stand p l e { frames := 0, locals := 0, cells := 0, slots := 0 } s m #[.ref b, .int (Int32.ofNat o), .ref d, .int (Int32.ofNat q), .int (Int32.ofNat len)] below meth c T' ([] ++ copyLocs d q len) 0 0 ∧ Put d B' s₁ T' ∧ Laid B B' q (q + len) (fun j => Value.int (lo8 (cv A (o + (j - q))))) ∧
      Steps p.tables e below (s₁.setTop (entryFrame m #[.ref b, .int (Int32.ofNat o), .ref d, .int (Int32.ofNat q), .int (Int32.ofNat len)] 7)) (T'.setTop (mkF m 3 #[.val (.ref b), .val (.int (Int32.ofNat (o + len))), .val (.ref d), .val (.int (Int32.ofNat (q + len))), .val (.int (Int32.ofNat len)), .val (.int (Int32.ofNat len)), z'] [])) := by
    intro r
    induction r with
    | zero =>
      intro i hi z hz Tl Bk Xl pl fl cl
      have hil : i = len := by omega
      rw [hil] at Xl fl cl
      exact ⟨Tl, Bk, z, Xl, pl, fl, cl⟩
    | succ r ih =>
      intro i hi z hz Tl Bk Xl pl fl cl
      have all := X0.warmed.alike.symm.trans Xl.warmed.alike
      have hAl := hA0.keep all (pl.other hne hA0.1)
      have hBk := hB0.like all pl.1 fl.1 fl.2.1 fl.2.2.1
      have hlt : q + i < Bk.slots.size := by rw [fl.2.2.1]; omega
      have c3 : Steps p.tables e below (s₁.setTop (entryFrame m #[.ref b, .int (Int32.ofNat o), .ref d, .int (Int32.ofNat q), .int (Int32.ofNat len)] 7)) (Tl.setTop (mkF m 12 #[.val (.ref b), .val (.int (Int32.ofNat (o + i))), .val (.ref d), .val (.int (Int32.ofNat (q + i))), .val (.int (Int32.ofNat len)), .val (.int (Int32.ofNat i)), z] [.int (Int32.ofNat (o + i)), .ref b])) := cl.trans (by
        refine XS.iload Xl.here hexec rfl (hb hbytes d3) rfl ?_
        refine XS.iload Xl.here hexec rfl (hb hbytes d5) rfl ?_
        refine XS.icmpNo Xl.here hexec rfl (hb hbytes d7) rfl (ii_ge_f (lt32 (by omega) (by omega))) ?_
        refine XS.aloadN Xl.here hexec rfl (hb hbytes d10) rfl rfl ?_
        refine XS.iloadN Xl.here hexec rfl (hb hbytes d11) rfl ?_
        exact Steps.refl _)
      have c4 : Steps p.tables e below (s₁.setTop (entryFrame m #[.ref b, .int (Int32.ofNat o), .ref d, .int (Int32.ofNat q), .int (Int32.ofNat len)] 7)) (Tl.setTop (mkF m 13 #[.val (.ref b), .val (.int (Int32.ofNat (o + i))), .val (.ref d), .val (.int (Int32.ofNat (q + i))), .val (.int (Int32.ofNat len)), .val (.int (Int32.ofNat i)), z] [.int (cv A (o + i))])) := c3.trans (by
        refine Xl.aget hexec hAl rfl (hA.get (i := o + i) (by omega)) rfl rfl (hb hbytes d12) ?_
        exact Steps.refl _)
      have c5 : Steps p.tables e below (s₁.setTop (entryFrame m #[.ref b, .int (Int32.ofNat o), .ref d, .int (Int32.ofNat q), .int (Int32.ofNat len)] 7)) (Tl.setTop (mkF m 15 #[.val (.ref b), .val (.int (Int32.ofNat (o + i))), .val (.ref d), .val (.int (Int32.ofNat (q + i))), .val (.int (Int32.ofNat len)), .val (.int (Int32.ofNat i)), .val (.int (cv A (o + i)))] [])) := c4.trans (by
        refine XS.istoreS Xl.here hexec rfl (hb hbytes d13) rfl rfl hz ?_
        exact Steps.refl _)
      have c6 : Steps p.tables e below (s₁.setTop (entryFrame m #[.ref b, .int (Int32.ofNat o), .ref d, .int (Int32.ofNat q), .int (Int32.ofNat len)] 7)) (Tl.setTop (mkF m 31 #[.val (.ref b), .val (.int (Int32.ofNat (o + i))), .val (.ref d), .val (.int (Int32.ofNat (q + i))), .val (.int (Int32.ofNat len)), .val (.int (Int32.ofNat i)), .val (.int (cv A (o + i)))] [.int (lo8 (cv A (o + i))), .int (Int32.ofNat (q + i)), .ref d])) := c5.trans (by
        refine XS.iload Xl.here hexec rfl (hb hbytes d15) rfl ?_
        refine sipushV Xl.here hexec rfl 255 (hb hbytes d17) (by decide) ?_
        refine XS.icmpYes Xl.here hexec rfl (pc0 := 20) rfl (hb hbytes d20) rfl (ii_le_t (hp i (by omega))) (by decide) rfl ?_
        refine XS.aloadN Xl.here hexec rfl (hb hbytes d26) rfl rfl ?_
        refine XS.iloadN Xl.here hexec rfl (hb hbytes d27) rfl ?_
        refine XS.iload Xl.here hexec rfl (hb hbytes d28) rfl ?_
        refine i2b Xl.here hexec rfl (hb hbytes d30) rfl ?_
        exact Steps.refl _)
      obtain ⟨T7, X7, p7, st7⟩ := Xl.aput hexec hBk rfl hlt rfl (fits_lo8 (cv A (o + i))) (g := (mkF m 31 #[.val (.ref b), .val (.int (Int32.ofNat (o + i))), .val (.ref d), .val (.int (Int32.ofNat (q + i))), .val (.int (Int32.ofNat len)), .val (.int (Int32.ofNat i)), .val (.int (cv A (o + i)))] [.int (lo8 (cv A (o + i))), .int (Int32.ofNat (q + i)), .ref d])) rfl (rest := []) rfl (hb hbytes d31)
      have c8 : Steps p.tables e below (s₁.setTop (entryFrame m #[.ref b, .int (Int32.ofNat o), .ref d, .int (Int32.ofNat q), .int (Int32.ofNat len)] 7)) (T7.setTop (mkF m 32 #[.val (.ref b), .val (.int (Int32.ofNat (o + i))), .val (.ref d), .val (.int (Int32.ofNat (q + i))), .val (.int (Int32.ofNat len)), .val (.int (Int32.ofNat i)), .val (.int (cv A (o + i)))] [])) := c6.trans (st7 _ (Steps.refl _))
      have c9 : Steps p.tables e below (s₁.setTop (entryFrame m #[.ref b, .int (Int32.ofNat o), .ref d, .int (Int32.ofNat q), .int (Int32.ofNat len)] 7)) (T7.setTop (mkF m 3 #[.val (.ref b), .val (.int (Int32.ofNat (o + i) + 1)), .val (.ref d), .val (.int (Int32.ofNat (q + i) + 1)), .val (.int (Int32.ofNat len)), .val (.int (Int32.ofNat i + 1)), .val (.int (cv A (o + i)))] [])) := c8.trans (by
        refine iincV X7.here hexec rfl 1 (hb hbytes d32) (by decide) rfl rfl ?_
        refine iincV X7.here hexec rfl 1 (hb hbytes d35) (by decide) rfl rfl ?_
        refine iincV X7.here hexec rfl 1 (hb hbytes d38) (by decide) rfl rfl ?_
        refine XS.goto X7.here hexec rfl (pc0 := 41) rfl (hb hbytes d41) (by decide) rfl ?_
        exact Steps.refl _)
      have c10 : Steps p.tables e below (s₁.setTop (entryFrame m #[.ref b, .int (Int32.ofNat o), .ref d, .int (Int32.ofNat q), .int (Int32.ofNat len)] 7)) (T7.setTop (mkF m 3 #[.val (.ref b), .val (.int (Int32.ofNat (o + (i + 1)))), .val (.ref d), .val (.int (Int32.ofNat (q + (i + 1)))), .val (.int (Int32.ofNat len)), .val (.int (Int32.ofNat (i + 1))), .val (.int (cv A (o + i)))] [])) := by
        have := c9
        rw [succ32, succ32, succ32] at this
        exact this
      exact ih (i + 1) (by omega) _ (Or.inr ⟨_, rfl, rfl⟩) T7 _ (by rw [copyLocs_step, ← List.append_assoc]; exact X7) (pl.trans p7) (fl.step (by omega) hlt (by simp)) c10
  obtain ⟨T9, B9, z9, X9, p9, f9, g9⟩ := loop len 0 (by omega) .unset (Or.inl rfl) s₁ B (by simpa [copyLocs] using X0) ⟨hB0.1, fun _ _ => rfl, rfl⟩ (Laid.zero _ _ _) c2
  have c11 : Steps p.tables e below (s₁.setTop (entryFrame m #[.ref b, .int (Int32.ofNat o), .ref d, .int (Int32.ofNat q), .int (Int32.ofNat len)] 7)) (T9.setTop (mkF m 46 #[.val (.ref b), .val (.int (Int32.ofNat (o + len))), .val (.ref d), .val (.int (Int32.ofNat (q + len))), .val (.int (Int32.ofNat len)), .val (.int (Int32.ofNat len)), z9] [.int (Int32.ofNat len)])) := g9.trans (by
    refine XS.iload X9.here hexec rfl (hb hbytes d3) rfl ?_
    refine XS.iload X9.here hexec rfl (hb hbytes d5) rfl ?_
    refine XS.icmpYes X9.here hexec rfl (pc0 := 7) rfl (hb hbytes d7) rfl (ii_ge_t (nlt32 (by omega) (Nat.le_refl _))) (by decide) rfl ?_
    refine XS.iload X9.here hexec rfl (hb hbytes d44) rfl ?_
    exact Steps.refl _)
  exact ⟨T9, some (.int (Int32.ofNat len)), _, _, _, X9, by simp, rfl, rfl, (fun h => by cases h), ⟨rfl, B9, p9.from hh0, f9⟩, fun fs hl => c11.trans (X9.ireturnOut hexec hret rfl (Or.inl rfl) (hb hbytes d46) hl)⟩
end Cmp5
namespace Cmp3
def yN : MethodName := ⟨"java/lang/StringUTF16", "compress", "([CII)[B"⟩
abbrev yB : ByteArray := jdk_52_method_16_code
theorem d0 : decode yB 0 = .ok (.iload_n 2, 1) := by decide +kernel
theorem d1 : decode yB 1 = .ok (.newarray .byte, 2) := by decide +kernel
theorem d3 : decode yB 3 = .ok (.astore_n 3, 1) := by decide +kernel
theorem d4 : decode yB 4 = .ok (.aload_n 0, 1) := by decide +kernel
theorem d5 : decode yB 5 = .ok (.iload_n 1, 1) := by decide +kernel
theorem d6 : decode yB 6 = .ok (.aload_n 3, 1) := by decide +kernel
theorem d7 : decode yB 7 = .ok (.iconst 0, 1) := by decide +kernel
theorem d8 : decode yB 8 = .ok (.iload_n 2, 1) := by decide +kernel
theorem d9 : decode yB 9 = .ok (.invokestatic 115, 3) := by decide +kernel
theorem d12 : decode yB 12 = .ok (.istore 4, 2) := by decide +kernel
theorem d14 : decode yB 14 = .ok (.iload 4, 2) := by decide +kernel
theorem d16 : decode yB 16 = .ok (.iload_n 2, 1) := by decide +kernel
theorem d17 : decode yB 17 = .ok (.if_icmp (.eq) 40, 3) := by decide +kernel
theorem d57 : decode yB 57 = .ok (.aload_n 3, 1) := by decide +kernel
theorem d58 : decode yB 58 = .ok (.areturn, 1) := by decide +kernel
def site : List Cond := [.arrayClass .byte, Cmp5.tab] ++ staticW U16 115 Cmp5.yN
def tab : Cond := tabOf yN yB 6 (some (.array .byte)) site
def P (b : Addr) (A : Cell) (o len : Nat) (args : Array Value) (s : State) : Prop := args = #[.ref b, .int (Int32.ofNat o), .int (Int32.ofNat len)] ∧ Ch b A s ∧ o + len ≤ A.slots.size ∧ len ≤ 536870912 ∧ ∀ i, i < len → ¬ 255 < cv A (o + i)
def E (b : Addr) (A : Cell) (o len : Nat) (r : Option Value) (s u : State) : Prop := NewArr .byte "[B" len (fun j => .int (lo8 (cv A (o + j)))) r s u ∧ u.heap.size = s.heap.size + 1
/-- no char of the range above 255: a new byte[] of their low bytes -/
theorem law (l : Launch) (b : Addr) (A : Cell) (o len : Nat) : Law l yN 3 3 1 18 yB 6 (some (.array .byte)) site (P b A o len) (E b A o len) [] 1 len := by
  refine Law.of_walk (plainFor_of_name (by decide +kernel)) (by decide +kernel) (by decide +kernel) (by decide) (fun _ _ h => by rw [h.1]; rfl) (fun _ U U' hal hh h => ⟨h.1, h.2.1.mv hal hh, h.2.2⟩) (fun r U U' V V' h1 hal h2 h => ⟨NewArr.mv r U U' V V' h1 hal h2 h.1, by rw [h1, h2]; exact h.2⟩) ?_
  intro p e s m args below meth c s₁ X0 hexec hbytes hml hret hlk hnm hown hh0 W hP
  obtain ⟨rfl, hA, l1, l2, hp⟩ := hP
  have a31 := hA.1.2.2.2
  have c1 : Steps p.tables e below (s₁.setTop (entryFrame m #[.ref b, .int (Int32.ofNat o), .int (Int32.ofNat len)] 6)) (s₁.setTop (mkF m 0 #[.val (.ref b), .val (.int (Int32.ofNat o)), .val (.int (Int32.ofNat len)), .unset, .unset, .unset] [])) := entry rfl
  have c2 : Steps p.tables e below (s₁.setTop (entryFrame m #[.ref b, .int (Int32.ofNat o), .int (Int32.ofNat len)] 6)) (s₁.setTop (mkF m 1 #[.val (.ref b), .val (.int (Int32.ofNat o)), .val (.int (Int32.ofNat len)), .unset, .unset, .unset] [.int (Int32.ofNat len)])) := c1.trans (by
    refine XS.iloadN X0.here hexec rfl (hb hbytes d0) rfl ?_
    exact Steps.refl _)
  obtain ⟨T3, B3, X3, ba3, bs3, bv3, bh3, bf3, st3⟩ := X0.anew hexec (atype := .byte) (wk W (.arrayClass .byte)) rfl (by show len * 1 ≤ _; omega) (by omega) (g := (mkF m 1 #[.val (.ref b), .val (.int (Int32.ofNat o)), .val (.int (Int32.ofNat len)), .unset, .unset, .unset] [.int (Int32.ofNat len)])) rfl (hb hbytes d1) (rest := []) rfl (Nat.le_refl _) (by show 0 + len ≤ len; omega)
  rw [hh0] at ba3 st3
  have kp3 : XT.Kept s T3 := (XT.Kept.of_eq hh0).push bh3
  have hA3 := hA.keep X3.warmed.alike (kp3 _ _ hA.1.1)
  have hne : b ≠ s.heap.size := hA.1.ne
  have c4 : Steps p.tables e below (s₁.setTop (entryFrame m #[.ref b, .int (Int32.ofNat o), .int (Int32.ofNat len)] 6)) (T3.setTop (mkF m 3 #[.val (.ref b), .val (.int (Int32.ofNat o)), .val (.int (Int32.ofNat len)), .unset, .unset, .unset] [.ref s.heap.size])) := c2.trans (st3 _ (Steps.refl _))
  have c5 : Steps p.tables e below (s₁.setTop (entryFrame m #[.ref b, .int (Int32.ofNat o), .int (Int32.ofNat len)] 6)) (T3.setTop (mkF m 9 #[.val (.ref b), .val (.int (Int32.ofNat o)), .val (.int (Int32.ofNat len)), .val (.ref s.heap.size), .unset, .unset] [.int (Int32.ofNat len), .int 0, .ref s.heap.size, .int (Int32.ofNat o), .ref b])) := c4.trans (by
    refine XS.astoreN X3.here hexec rfl (hb hbytes d3) rfl rfl rfl ?_
    refine XS.aloadN X3.here hexec rfl (hb hbytes d4) rfl rfl ?_
    refine XS.iloadN X3.here hexec rfl (hb hbytes d5) rfl ?_
    refine XS.aloadN X3.here hexec rfl (hb hbytes d6) rfl rfl ?_
    refine iconstV X3.here hexec rfl 0 (hb hbytes d7) (by decide) ?_
    refine XS.iloadN X3.here hexec rfl (hb hbytes d8) rfl ?_
    exact Steps.refl _)
  obtain ⟨v6, T6, X6, E6, g6⟩ := X3.callS hexec (Cmp5.law l b A s.heap.size B3 o 0 len) hown (wks W (staticW U16 115 Cmp5.yN)) (wk W Cmp5.tab) (W := 0) (Nat.le_of_ble_eq_true rfl) (Nat.le_of_ble_eq_true rfl) (Nat.le_refl _) (by show 0 + len + 0 ≤ len; omega) (g := (mkF m 9 #[.val (.ref b), .val (.int (Int32.ofNat o)), .val (.int (Int32.ofNat len)), .val (.ref s.heap.size), .unset, .unset] [.int (Int32.ofNat len), .int (Int32.ofNat 0), .ref s.heap.size, .int (Int32.ofNat o), .ref b])) rfl (by rw [hml]; rfl) c5 (argsL := [.ref b, .int (Int32.ofNat o), .ref s.heap.size, .int (Int32.ofNat 0), .int (Int32.ofNat len)]) (rest := []) rfl rfl (by show 2 * 0 + 0 ≤ _; decide) (hb hbytes d9) (⟨rfl, hA3, ba3, hne, l1, by rw [bs3]; simp, hp⟩)
  obtain ⟨rfl, B6, p6, f6⟩ := E6
  have c7 : Steps p.tables e below (s₁.setTop (entryFrame m #[.ref b, .int (Int32.ofNat o), .int (Int32.ofNat len)] 6)) (T6.setTop (mkF m 12 #[.val (.ref b), .val (.int (Int32.ofNat o)), .val (.int (Int32.ofNat len)), .val (.ref s.heap.size), .unset, .unset] [.int (Int32.ofNat len)])) := g6
  have c8 : Steps p.tables e below (s₁.setTop (entryFrame m #[.ref b, .int (Int32.ofNat o), .int (Int32.ofNat len)] 6)) (T6.setTop (mkF m 58 #[.val (.ref b), .val (.int (Int32.ofNat o)), .val (.int (Int32.ofNat len)), .val (.ref s.heap.size), .val (.int (Int32.ofNat len)), .unset] [.ref s.heap.size])) := c7.trans (by
    refine XS.istore X6.here hexec rfl (hb hbytes d12) rfl rfl ?_
    refine XS.iload X6.here hexec rfl (hb hbytes d14) rfl ?_
    refine XS.iloadN X6.here hexec rfl (hb hbytes d16) rfl ?_
    refine XS.icmpYes X6.here hexec rfl (pc0 := 17) rfl (hb hbytes d17) rfl (ii_eq_t rfl) (by decide) rfl ?_
    refine XS.aloadN X6.here hexec rfl (hb hbytes d57) rfl rfl ?_
    exact Steps.refl _)
  have X8 := X6.wide (L' := []) (cells' := 1) (slots' := len) (fun x hx hlt => by
    simp only [List.nil_append, copyLocs, List.mem_map, List.mem_range] at hx
    obtain ⟨i, -, rfl⟩ := hx
    exact absurd hlt (Nat.lt_irrefl _)) (Nat.le_refl _) (by omega)
  exact ⟨T6, some (.ref s.heap.size), _, _, _, X8, rfl, rfl, rfl, (fun h => by cases h), ⟨⟨rfl, B6, ba3.like (X3.warmed.alike.symm.trans X6.warmed.alike) p6.1 f6.1 f6.2.1 f6.2.2.1, f6.2.1.trans bv3, by rw [X6.warmed.alike.findClass, f6.1]; exact bf3, by rw [f6.2.2.1, bs3]; simp, fun j hj => by rw [f6.2.2.2 j, if_pos (by omega)]; rfl, kp3.put p6 (Nat.le_refl _)⟩, by rw [p6.2.2, bh3, hh0]; simp⟩, fun fs hl => c8.trans (X8.areturnOut hexec rfl hret rfl (hb hbytes d58) hl)⟩
end Cmp3
namespace CodL
def yN : MethodName := ⟨"java/lang/StringUTF16", "coderFromArrayLen", "([BI)B"⟩
abbrev yB : ByteArray := jdk_52_method_15_code
theorem d0 : decode yB 0 = .ok (.iload_n 1, 1) := by decide +kernel
theorem d1 : decode yB 1 = .ok (.aload_n 0, 1) := by decide +kernel
theorem d2 : decode yB 2 = .ok (.arraylength, 1) := by decide +kernel
theorem d3 : decode yB 3 = .ok (.isub, 1) := by decide +kernel
theorem d4 : decode yB 4 = .ok (.bipush 31, 2) := by decide +kernel
theorem d6 : decode yB 6 = .ok (.iushr, 1) := by decide +kernel
theorem d7 : decode yB 7 = .ok (.i2b, 1) := by decide +kernel
theorem d8 : decode yB 8 = .ok (.ireturn, 1) := by decide +kernel
def site : List Cond := []
def tab : Cond := tabOf yN yB 2 (some .byte) site
def P (d : Addr) (B : Cell) (args : Array Value) (s : State) : Prop := args = #[.ref d, .int (Int32.ofNat B.slots.size)] ∧ Arr .byte d B s
def E (r : Option Value) (s u : State) : Prop := XT.PureE (some (.int 0)) r s u
/-- an array as long as the number of chars: LATIN1 -/
theorem law (l : Launch) (d : Addr) (B : Cell) : Law l yN 2 2 0 0 yB 2 (some .byte) site (P d B) E [] 0 0 := by
  refine Law.of_walk (plainFor_of_name (by decide +kernel)) (by decide +kernel) (by decide +kernel) (by decide) (fun _ _ h => by rw [h.1]; rfl) (fun _ U U' hal hh h => ⟨h.1, h.2.mv hal hh⟩) (fun r U U' V V' h1 hal h2 h => XT.PureE.mv r U U' V V' h1 hal h2 h) ?_
  intro p e s m args below meth c s₁ X0 hexec hbytes hml hret hlk hnm hown hh0 W hP
  obtain ⟨rfl, hB⟩ := hP
  have hB0 := hB.mv X0.warmed.alike hh0
  have c1 : Steps p.tables e below (s₁.setTop (entryFrame m #[.ref d, .int (Int32.ofNat B.slots.size)] 2)) (s₁.setTop (mkF m 0 #[.val (.ref d), .val (.int (Int32.ofNat B.slots.size))] [])) := entry rfl
  have c2 : Steps p.tables e below (s₁.setTop (entryFrame m #[.ref d, .int (Int32.ofNat B.slots.size)] 2)) (s₁.setTop (mkF m 2 #[.val (.ref d), .val (.int (Int32.ofNat B.slots.size))] [.ref d, .int (Int32.ofNat B.slots.size)])) := c1.trans (by
    refine XS.iloadN X0.here hexec rfl (hb hbytes d0) rfl ?_
    refine XS.aloadN X0.here hexec rfl (hb hbytes d1) rfl rfl ?_
    exact Steps.refl _)
  have c3 : Steps p.tables e below (s₁.setTop (entryFrame m #[.ref d, .int (Int32.ofNat B.slots.size)] 2)) (s₁.setTop (mkF m 8 #[.val (.ref d), .val (.int (Int32.ofNat B.slots.size))] [.int (lo8 (ushr (Int32.ofNat B.slots.size - Int32.ofNat B.slots.size) 31))])) := c2.trans (by
    refine X0.alen hexec hB0 rfl rfl (hb hbytes d2) ?_
    refine XS.isub X0.here hexec rfl (hb hbytes d3) rfl ?_
    refine bipushV X0.here hexec rfl 31 (hb hbytes d4) (by decide) ?_
    refine iushr X0.here hexec rfl (hb hbytes d6) rfl ?_
    refine i2b X0.here hexec rfl (hb hbytes d7) rfl ?_
    exact Steps.refl _)
  have e0 : lo8 (ushr (Int32.ofNat B.slots.size - Int32.ofNat B.slots.size) 31) = 0 := by rw [Int32.sub_self]; decide
  rw [e0] at c3
  exact ⟨s₁, some (.int 0), _, _, _, X0, rfl, rfl, rfl, (fun h => by cases h), ⟨rfl, hh0⟩, fun fs hl => c3.trans (X0.ireturnOut hexec hret rfl (Or.inr (Or.inr (Or.inl rfl))) (hb hbytes d8) hl)⟩
end CodL
/-- the String at a is Latin-1 over a new byte[] (the heap's one new cell): the low bytes of the len chars of A from o on; every cell but a is kept -/
def Got (a : Addr) (D : Cell) (fV fC : Field) (A : Cell) (o len : Nat) (r : Option Value) (s u : State) : Prop := r = none ∧ ∃ D' V : Cell, Blank "java/lang/String" a D' u ∧ Same D D' [fV.slot, fC.slot] ∧ D'.slots[fV.slot]? = some (.ref s.heap.size) ∧ D'.slots[fC.slot]? = some (.int 0) ∧ Arr .byte s.heap.size V u ∧ V.vm = .none ∧ u.vm.findClass "[B" = some V.cls ∧ V.slots.size = len ∧ (∀ j, j < len → V.slots[j]? = some (.int (lo8 (cv A (o + j))))) ∧ (∀ (y : Addr) (c : Cell), y ≠ a → s.heap[y]? = some c → u.heap[y]? = some c) ∧ u.heap.size = s.heap.size + 1
theorem Got.mv {a : Addr} {D A : Cell} {fV fC : Field} {o len : Nat} : ∀ r (U U' V V' : State), U'.heap = U.heap → V.vm.Alike V'.vm → V'.heap = V.heap → Got a D fV fC A o len r U V → Got a D fV fC A o len r U' V' :=
  fun r U U' V V' h1 hal h2 ⟨e0, D', X, a1, a2, a3, a4, a5, a6, a7, a8, a9, a10, a11⟩ => ⟨e0, D', X, a1.mv hal h2, a2, by rw [h1]; exact a3, a4, by rw [h1]; exact a5.mv hal h2, a6, by rw [hal.findClass]; exact a7, a8, a9, by rw [h1, h2]; exact a10, by rw [h1, h2]; exact a11⟩
namespace New4
def yN : MethodName := ⟨"java/lang/String", "<init>", "([CIILjava/lang/Void;)V"⟩
abbrev yB : ByteArray := jdk_42_method_149_code
theorem d0 : decode yB 0 = .ok (.aload_n 0, 1) := by decide +kernel
theorem d1 : decode yB 1 = .ok (.invokespecial 1, 3) := by decide +kernel
theorem d4 : decode yB 4 = .ok (.iload_n 3, 1) := by decide +kernel
theorem d5 : decode yB 5 = .ok (.ifCond (.ne) 22, 3) := by decide +kernel
theorem d27 : decode yB 27 = .ok (.getstatic 38, 3) := by decide +kernel
theorem d30 : decode yB 30 = .ok (.ifCond (.eq) 28, 3) := by decide +kernel
theorem d33 : decode yB 33 = .ok (.aload_n 1, 1) := by decide +kernel
theorem d34 : decode yB 34 = .ok (.iload_n 2, 1) := by decide +kernel
theorem d35 : decode yB 35 = .ok (.iload_n 3, 1) := by decide +kernel
theorem d36 : decode yB 36 = .ok (.invokestatic 177, 3) := by decide +kernel
theorem d39 : decode yB 39 = .ok (.astore 5, 2) := by decide +kernel
theorem d41 : decode yB 41 = .ok (.aload_n 0, 1) := by decide +kernel
theorem d42 : decode yB 42 = .ok (.aload 5, 2) := by decide +kernel
theorem d44 : decode yB 44 = .ok (.iload_n 3, 1) := by decide +kernel
theorem d45 : decode yB 45 = .ok (.invokestatic 47, 3) := by decide +kernel
theorem d48 : decode yB 48 = .ok (.putfield 15, 3) := by decide +kernel
theorem d51 : decode yB 51 = .ok (.aload_n 0, 1) := by decide +kernel
theorem d52 : decode yB 52 = .ok (.aload 5, 2) := by decide +kernel
theorem d54 : decode yB 54 = .ok (.putfield 9, 3) := by decide +kernel
theorem d57 : decode yB 57 = .ok (.return_, 1) := by decide +kernel
def site : List Cond := [.fieldLink "java/lang/String" 38 "java/lang/String" "COMPACT_STRINGS" "Z", Cmp3.tab, CodL.tab, .laysFinal "java/lang/String" "java/lang/String" "value" "[B", .fieldLink "java/lang/String" 9 "java/lang/String" "value" "[B", .laysFinal "java/lang/String" "java/lang/String" "coder" "B", .fieldLink "java/lang/String" 15 "java/lang/String" "coder" "B"] ++ objW "java/lang/String" 1 ++ staticW "java/lang/String" 177 Cmp3.yN ++ staticW "java/lang/String" 47 CodL.yN
def tab : Cond := tabOf yN yB 6 none site
def P (a : Addr) (D : Cell) (fV fC : Field) (b : Addr) (A : Cell) (z : Int32) (o len : Nat) (args : Array Value) (s : State) : Prop := args = #[.ref a, .ref b, .int (Int32.ofNat o), .int (Int32.ofNat len), .null] ∧ Blank "java/lang/String" a D s ∧ Found "java/lang/String" "value" "[B" fV s ∧ Found "java/lang/String" "coder" "B" fC s ∧ Ch b A s ∧ StaticIs s "java/lang/String" "COMPACT_STRINGS" "Z" (.int z) ∧ ¬ z = 0 ∧ 0 < len ∧ o + len ≤ A.slots.size ∧ len ≤ 536870912 ∧ ∀ i, i < len → ¬ 255 < cv A (o + i)
def E (a : Addr) (D : Cell) (fV fC : Field) (A : Cell) (o len : Nat) (r : Option Value) (s u : State) : Prop := Got a D fV fC A o len r s u
/-- len > 0, no char of the range above 255: a Latin-1 String of their low bytes -/
theorem law (l : Launch) (a : Addr) (D : Cell) (fV fC : Field) (b : Addr) (A : Cell) (z : Int32) (o len : Nat) : Law l yN 5 4 2 35 yB 6 none site (P a D fV fC b A z o len) (E a D fV fC A o len) [⟨a, fC.slot⟩, ⟨a, fV.slot⟩] 1 len := by
  refine Law.of_walk (plainFor_of_name (by decide +kernel)) (by decide +kernel) (by decide +kernel) (by decide) (fun _ _ h => by rw [h.1]; rfl) (fun _ U U' hal hh h => ⟨h.1, h.2.1.mv hal hh, h.2.2.1.al hal, h.2.2.2.1.al hal, h.2.2.2.2.1.mv hal hh, h.2.2.2.2.2.1.there hal hh, h.2.2.2.2.2.2⟩) (fun r U U' V V' h1 hal h2 h => Got.mv r U U' V V' h1 hal h2 h) ?_
  intro p e s m args below meth c s₁ X0 hexec hbytes hml hret hlk hnm hown hh0 W hP
  obtain ⟨rfl, hB, f1, f2, hA, s1, hz, l0, l1, l2, hp⟩ := hP
  have a31 := hA.1.2.2.2
  have c1 : Steps p.tables e below (s₁.setTop (entryFrame m #[.ref a, .ref b, .int (Int32.ofNat o), .int (Int32.ofNat len), .null] 6)) (s₁.setTop (mkF m 0 #[.val (.ref a), .val (.ref b), .val (.int (Int32.ofNat o)), .val (.int (Int32.ofNat len)), .val .null, .unset] [])) := entry rfl
  have c2 : Steps p.tables e below (s₁.setTop (entryFrame m #[.ref a, .ref b, .int (Int32.ofNat o), .int (Int32.ofNat len), .null] 6)) (s₁.setTop (mkF m 1 #[.val (.ref a), .val (.ref b), .val (.int (Int32.ofNat o)), .val (.int (Int32.ofNat len)), .val .null, .unset] [.ref a])) := c1.trans (by
    refine XS.aloadN X0.here hexec rfl (hb hbytes d0) rfl rfl ?_
    exact Steps.refl _)
  obtain ⟨T3, X3, q3, st3⟩ := X0.oinit hexec hown (wks W (objW "java/lang/String" 1)) (g := (mkF m 1 #[.val (.ref a), .val (.ref b), .val (.int (Int32.ofNat o)), .val (.int (Int32.ofNat len)), .val .null, .unset] [.ref a])) rfl (by rw [hml]; rfl) (rest := []) rfl (hb hbytes d1) (W := 0) (by show 2 * 0 + 0 ≤ _; decide) (Nat.le_of_ble_eq_true rfl) (Nat.le_of_ble_eq_true rfl)
  have hh3 := q3.trans hh0
  have c4 : Steps p.tables e below (s₁.setTop (entryFrame m #[.ref a, .ref b, .int (Int32.ofNat o), .int (Int32.ofNat len), .null] 6)) (T3.setTop (mkF m 27 #[.val (.ref a), .val (.ref b), .val (.int (Int32.ofNat o)), .val (.int (Int32.ofNat len)), .val .null, .unset] [])) := (c2.trans (st3 _ (Steps.refl _))).trans (by
    refine XS.iloadN X3.here hexec rfl (hb hbytes d4) rfl ?_
    refine XS.ifYes X3.here hexec rfl (pc0 := 5) rfl (hb hbytes d5) rfl (i0_ne_t (nz32 (by omega) l0)) (by decide) rfl ?_
    exact Steps.refl _)
  obtain ⟨T5, X5, q5, st5⟩ := X3.sget hexec hown (wk W (.fieldLink "java/lang/String" 38 "java/lang/String" "COMPACT_STRINGS" "Z")) s1 (fun _ _ h => by rw [hh3]; exact h) (g := (mkF m 27 #[.val (.ref a), .val (.ref b), .val (.int (Int32.ofNat o)), .val (.int (Int32.ofNat len)), .val .null, .unset] [])) rfl (hb hbytes d27)
  have hh5 := q5.trans hh3
  have c6 : Steps p.tables e below (s₁.setTop (entryFrame m #[.ref a, .ref b, .int (Int32.ofNat o), .int (Int32.ofNat len), .null] 6)) (T5.setTop (mkF m 30 #[.val (.ref a), .val (.ref b), .val (.int (Int32.ofNat o)), .val (.int (Int32.ofNat len)), .val .null, .unset] [.int z])) := c4.trans (st5 _ (Steps.refl _))
  have c7 : Steps p.tables e below (s₁.setTop (entryFrame m #[.ref a, .ref b, .int (Int32.ofNat o), .int (Int32.ofNat len), .null] 6)) (T5.setTop (mkF m 36 #[.val (.ref a), .val (.ref b), .val (.int (Int32.ofNat o)), .val (.int (Int32.ofNat len)), .val .null, .unset] [.int (Int32.ofNat len), .int (Int32.ofNat o), .ref b])) := c6.trans (by
    refine XS.ifNo X5.here hexec rfl (hb hbytes d30) rfl (i0_eq_f hz) ?_
    refine XS.aloadN X5.here hexec rfl (hb hbytes d33) rfl rfl ?_
    refine XS.iloadN X5.here hexec rfl (hb hbytes d34) rfl ?_
    refine XS.iloadN X5.here hexec rfl (hb hbytes d35) rfl ?_
    exact Steps.refl _)
  obtain ⟨v8, T8, X8, E8, g8⟩ := X5.callS hexec (Cmp3.law l b A o len) hown (wks W (staticW "java/lang/String" 177 Cmp3.yN)) (wk W Cmp3.tab) (W := 0) (Nat.le_of_ble_eq_true rfl) (Nat.le_of_ble_eq_true rfl) (Nat.le_refl _) (by show 0 + len ≤ len; omega) (g := (mkF m 36 #[.val (.ref a), .val (.ref b), .val (.int (Int32.ofNat o)), .val (.int (Int32.ofNat len)), .val .null, .unset] [.int (Int32.ofNat len), .int (Int32.ofNat o), .ref b])) rfl (by rw [hml]; rfl) c7 (argsL := [.ref b, .int (Int32.ofNat o), .int (Int32.ofNat len)]) (rest := []) rfl rfl (by show 2 * 0 + 0 ≤ _; decide) (hb hbytes d36) (⟨rfl, hA.mv X5.warmed.alike hh5, l1, l2, hp⟩)
  obtain ⟨e8, z8⟩ := E8
  obtain ⟨rfl, N, n1, n2, n3, n4, n5, n6⟩ := NewArr.mv _ T5 s _ _ hh5.symm (Vm.Alike.refl _) rfl e8
  rw [hh5] at z8
  have hB1 := hB.keep X8.warmed.alike (n6 _ _ hB.1)
  have hne : s.heap.size ≠ a := (Nat.ne_of_lt (Array.getElem?_eq_some_iff.mp hB.1).1).symm
  have c9 : Steps p.tables e below (s₁.setTop (entryFrame m #[.ref a, .ref b, .int (Int32.ofNat o), .int (Int32.ofNat len), .null] 6)) (T8.setTop (mkF m 39 #[.val (.ref a), .val (.ref b), .val (.int (Int32.ofNat o)), .val (.int (Int32.ofNat len)), .val .null, .unset] [.ref s.heap.size])) := g8
  have c10 : Steps p.tables e below (s₁.setTop (entryFrame m #[.ref a, .ref b, .int (Int32.ofNat o), .int (Int32.ofNat len), .null] 6)) (T8.setTop (mkF m 45 #[.val (.ref a), .val (.ref b), .val (.int (Int32.ofNat o)), .val (.int (Int32.ofNat len)), .val .null, .val (.ref s.heap.size)] [.int (Int32.ofNat N.slots.size), .ref s.heap.size, .ref a])) := by
    have hc : Steps p.tables e below (s₁.setTop (entryFrame m #[.ref a, .ref b, .int (Int32.ofNat o), .int (Int32.ofNat len), .null] 6)) (T8.setTop (mkF m 45 #[.val (.ref a), .val (.ref b), .val (.int (Int32.ofNat o)), .val (.int (Int32.ofNat len)), .val .null, .val (.ref s.heap.size)] [.int (Int32.ofNat len), .ref s.heap.size, .ref a])) := c9.trans (by
      refine XS.astore X8.here hexec rfl (hb hbytes d39) rfl rfl rfl ?_
      refine XS.aloadN X8.here hexec rfl (hb hbytes d41) rfl rfl ?_
      refine XS.aload X8.here hexec rfl (hb hbytes d42) rfl rfl ?_
      refine XS.iloadN X8.here hexec rfl (hb hbytes d44) rfl ?_
      exact Steps.refl _)
    rw [n4]; exact hc
  obtain ⟨v11, T11, X11, E11, g11⟩ := X8.callS hexec (CodL.law l s.heap.size N) hown (wks W (staticW "java/lang/String" 47 CodL.yN)) (wk W CodL.tab) (W := 1) (Nat.le_of_ble_eq_true rfl) (Nat.le_of_ble_eq_true rfl) (Nat.le_refl _) (by show 0 + len + 0 ≤ len; omega) (g := (mkF m 45 #[.val (.ref a), .val (.ref b), .val (.int (Int32.ofNat o)), .val (.int (Int32.ofNat len)), .val .null, .val (.ref s.heap.size)] [.int (Int32.ofNat N.slots.size), .ref s.heap.size, .ref a])) rfl (by rw [hml]; rfl) c10 (argsL := [.ref s.heap.size, .int (Int32.ofNat N.slots.size)]) (rest := [.ref a]) rfl rfl (by show 2 * 0 + (1 + 0) ≤ _; decide) (hb hbytes d45) (⟨rfl, n1⟩)
  obtain ⟨rfl, q11⟩ := E11
  have hB11 := hB1.mv (X8.warmed.alike.symm.trans X11.warmed.alike) q11
  have c12 : Steps p.tables e below (s₁.setTop (entryFrame m #[.ref a, .ref b, .int (Int32.ofNat o), .int (Int32.ofNat len), .null] 6)) (T11.setTop (mkF m 48 #[.val (.ref a), .val (.ref b), .val (.int (Int32.ofNat o)), .val (.int (Int32.ofNat len)), .val .null, .val (.ref s.heap.size)] [.int 0, .ref a])) := g11
  obtain ⟨T13, X13, p13, bl13, sl13, st13⟩ := X11.finit hexec hown (wk W (.fieldLink "java/lang/String" 15 "java/lang/String" "coder" "B")) (Or.inr ⟨_, (wk W (.laysFinal "java/lang/String" "java/lang/String" "coder" "B"))⟩) (Or.inl ⟨rfl, hnm⟩) f2 (Or.inl rfl) hB11 (t := .byte) (by decide +kernel) rfl (g := (mkF m 48 #[.val (.ref a), .val (.ref b), .val (.int (Int32.ofNat o)), .val (.int (Int32.ofNat len)), .val .null, .val (.ref s.heap.size)] [.int 0, .ref a])) rfl (rest := []) rfl (hb hbytes d48)
  have c14 : Steps p.tables e below (s₁.setTop (entryFrame m #[.ref a, .ref b, .int (Int32.ofNat o), .int (Int32.ofNat len), .null] 6)) (T13.setTop (mkF m 54 #[.val (.ref a), .val (.ref b), .val (.int (Int32.ofNat o)), .val (.int (Int32.ofNat len)), .val .null, .val (.ref s.heap.size)] [.ref s.heap.size, .ref a])) := (c12.trans (st13 _ (Steps.refl _))).trans (by
    refine XS.aloadN X13.here hexec rfl (hb hbytes d51) rfl rfl ?_
    refine XS.aload X13.here hexec rfl (hb hbytes d52) rfl rfl ?_
    exact Steps.refl _)
  obtain ⟨T15, X15, p15, bl15, sl15, st15⟩ := X13.finit hexec hown (wk W (.fieldLink "java/lang/String" 9 "java/lang/String" "value" "[B")) (Or.inr ⟨_, (wk W (.laysFinal "java/lang/String" "java/lang/String" "value" "[B"))⟩) (Or.inl ⟨rfl, hnm⟩) f1 (Or.inl rfl) bl13 (t := (.array .byte)) (by decide +kernel) rfl (g := (mkF m 54 #[.val (.ref a), .val (.ref b), .val (.int (Int32.ofNat o)), .val (.int (Int32.ofNat len)), .val .null, .val (.ref s.heap.size)] [.ref s.heap.size, .ref a])) rfl (rest := []) rfl (hb hbytes d54)
  have c16 : Steps p.tables e below (s₁.setTop (entryFrame m #[.ref a, .ref b, .int (Int32.ofNat o), .int (Int32.ofNat len), .null] 6)) (T15.setTop (mkF m 57 #[.val (.ref a), .val (.ref b), .val (.int (Int32.ofNat o)), .val (.int (Int32.ofNat len)), .val .null, .val (.ref s.heap.size)] [])) := c14.trans (st15 _ (Steps.refl _))
  have ap := apart (Or.inr ⟨_, (wk W (.laysFinal "java/lang/String" "java/lang/String" "value" "[B"))⟩) (Or.inr ⟨_, (wk W (.laysFinal "java/lang/String" "java/lang/String" "coder" "B"))⟩) f1 f2 (t₁ := .array .byte) (t₂ := .byte) (by decide +kernel) (by decide +kernel) (by decide)
  have al := X8.warmed.alike.symm.trans X15.warmed.alike
  have n7 : T11.heap[s.heap.size]? = some N := by rw [q11]; exact n1.1
  exact ⟨T15, none, _, _, _, X15, by simp, rfl, by omega, (fun _ => rfl), ⟨rfl, _, N, bl15, ((Same.refl D _).set _ (by simp)).set _ (by simp), sl15, (Cell.slots_setSlot_ne _ ap).trans sl13, n1.keep al (p15.other hne (p13.other hne n7)), n2, by rw [al.findClass]; exact n3, n4, n5, fun y c h1 h2 => p15.other h1 (p13.other h1 (by rw [q11]; exact n6 y c h2)), by rw [p15.2.2, p13.2.2, q11]; exact z8⟩, fun fs hl => c16.trans (X15.returnOut hexec hret (hb hbytes d57) hl)⟩
end New4
namespace New1
def yN : MethodName := ⟨"java/lang/String", "<init>", "([C)V"⟩
abbrev yB : ByteArray := jdk_42_method_3_code
theorem d0 : decode yB 0 = .ok (.aload_n 0, 1) := by decide +kernel
theorem d1 : decode yB 1 = .ok (.aload_n 1, 1) := by decide +kernel
theorem d2 : decode yB 2 = .ok (.iconst 0, 1) := by decide +kernel
theorem d3 : decode yB 3 = .ok (.aload_n 1, 1) := by decide +kernel
theorem d4 : decode yB 4 = .ok (.arraylength, 1) := by decide +kernel
theorem d5 : decode yB 5 = .ok (.aconst_null, 1) := by decide +kernel
theorem d6 : decode yB 6 = .ok (.invokespecial 27, 3) := by decide +kernel
theorem d9 : decode yB 9 = .ok (.return_, 1) := by decide +kernel
def site : List Cond := [New4.tab] ++ initW "java/lang/String" 27 New4.yN
def tab : Cond := tabOf yN yB 2 none site
def P (a : Addr) (D : Cell) (fV fC : Field) (b : Addr) (A : Cell) (z : Int32) (args : Array Value) (s : State) : Prop := args = #[.ref a, .ref b] ∧ Blank "java/lang/String" a D s ∧ Found "java/lang/String" "value" "[B" fV s ∧ Found "java/lang/String" "coder" "B" fC s ∧ Ch b A s ∧ StaticIs s "java/lang/String" "COMPACT_STRINGS" "Z" (.int z) ∧ ¬ z = 0 ∧ 0 < A.slots.size ∧ A.slots.size ≤ 536870912 ∧ ∀ i, i < A.slots.size → ¬ 255 < cv A i
def E (a : Addr) (D : Cell) (fV fC : Field) (A : Cell) (r : Option Value) (s u : State) : Prop := Got a D fV fC A 0 A.slots.size r s u
/-- new String(chars), not empty, no char above 255: a Latin-1 String of their low bytes -/
theorem law (l : Launch) (a : Addr) (D : Cell) (fV fC : Field) (b : Addr) (A : Cell) (z : Int32) : Law l yN 2 1 3 52 yB 2 none site (P a D fV fC b A z) (E a D fV fC A) [⟨a, fC.slot⟩, ⟨a, fV.slot⟩] 1 A.slots.size := by
  refine Law.of_walk (plainFor_of_name (by decide +kernel)) (by decide +kernel) (by decide +kernel) (by decide) (fun _ _ h => by rw [h.1]; rfl) (fun _ U U' hal hh h => ⟨h.1, h.2.1.mv hal hh, h.2.2.1.al hal, h.2.2.2.1.al hal, h.2.2.2.2.1.mv hal hh, h.2.2.2.2.2.1.there hal hh, h.2.2.2.2.2.2⟩) (fun r U U' V V' h1 hal h2 h => Got.mv r U U' V V' h1 hal h2 h) ?_
  intro p e s m args below meth c s₁ X0 hexec hbytes hml hret hlk hnm hown hh0 W hP
  obtain ⟨rfl, hB, f1, f2, hA, s1, hz, l0, l2, hp⟩ := hP
  have c1 : Steps p.tables e below (s₁.setTop (entryFrame m #[.ref a, .ref b] 2)) (s₁.setTop (mkF m 0 #[.val (.ref a), .val (.ref b)] [])) := entry rfl
  have c2 : Steps p.tables e below (s₁.setTop (entryFrame m #[.ref a, .ref b] 2)) (s₁.setTop (mkF m 6 #[.val (.ref a), .val (.ref b)] [.null, .int (Int32.ofNat A.slots.size), .int 0, .ref b, .ref a])) := c1.trans (by
    refine XS.aloadN X0.here hexec rfl (hb hbytes d0) rfl rfl ?_
    refine XS.aloadN X0.here hexec rfl (hb hbytes d1) rfl rfl ?_
    refine iconstV X0.here hexec rfl 0 (hb hbytes d2) (by decide) ?_
    refine XS.aloadN X0.here hexec rfl (hb hbytes d3) rfl rfl ?_
    refine X0.alen hexec (hA.1.mv X0.warmed.alike hh0) rfl rfl (hb hbytes d4) ?_
    refine XS.aconstNull X0.here hexec rfl (hb hbytes d5) ?_
    exact Steps.refl _)
  obtain ⟨v3, T3, X3, E3, g3⟩ := X0.callN hexec (New4.law l a D fV fC b A z 0 A.slots.size) rfl hown (wks W (initW "java/lang/String" 27 New4.yN)) (W New4.tab (by simp only [site, List.mem_cons, List.mem_append, true_or, or_true])) (W := 0) (Nat.le_of_ble_eq_true rfl) (Nat.le_of_ble_eq_true rfl) (Nat.le_refl _) (by show 0 + A.slots.size ≤ A.slots.size; omega) (g := (mkF m 6 #[.val (.ref a), .val (.ref b)] [.null, .int (Int32.ofNat A.slots.size), .int (Int32.ofNat 0), .ref b, .ref a])) rfl (by rw [hml]; rfl) c2 (argsL := [.ref b, .int (Int32.ofNat 0), .int (Int32.ofNat A.slots.size), .null]) (rest := []) rfl rfl (by show 2 * 0 + 0 ≤ _; decide) (hb hbytes d6) (⟨rfl, hB.mv X0.warmed.alike hh0, f1.al X0.warmed.alike, f2.al X0.warmed.alike, hA.mv X0.warmed.alike hh0, s1.there X0.warmed.alike hh0, hz, l0, by omega, l2, fun i hi => by rw [Nat.zero_add]; exact hp i hi⟩)
  have e0 := Got.mv _ s₁ s _ _ hh0.symm (Vm.Alike.refl _) rfl E3
  obtain rfl := e0.1
  have c4 : Steps p.tables e below (s₁.setTop (entryFrame m #[.ref a, .ref b] 2)) (T3.setTop (mkF m 9 #[.val (.ref a), .val (.ref b)] [])) := g3
  exact ⟨T3, none, _, _, _, X3, by simp, rfl, by omega, (fun _ => rfl), e0, fun fs hl => c4.trans (X3.returnOut hexec hret (hb hbytes d9) hl)⟩
theorem pays {l : Launch} {R : Room} {p : Program} {e : Env} {below : List Frame} {s : State} {sargs : Array Value} {len W : Nat} (a : Addr) (D : Cell) (fV fC : Field) (b : Addr) (A : Cell) (z : Int32) (htab : tab.before sargs s = true) (hfr : 4 ≤ R.frames) (hlo : W + 65 ≤ R.locals) :
    Back l R p e below s sargs yN len W (fun A₁ a₁ => A₁.cells + 1 ≤ R.cells ∧ A₁.slots + A.slots.size ≤ R.slots ∧ P a D fV fC b A z a₁ A₁.U) (fun A₁ _ v₁ B₁ => E a D fV fC A v₁ A₁.U B₁.U ∧ B₁.locs = A₁.locs ++ [⟨a, fC.slot⟩, ⟨a, fV.slot⟩] ∧ B₁.cells = A₁.cells + 1 ∧ B₁.slots = A₁.slots + A.slots.size) :=
  (law l a D fV fC b A z).pays htab hfr (by omega)
end New1
end StrChars
namespace StrChars.Road
open Jvm Sem ClassFile Op Lib Jvm.Stand Jvm.Free Jvm.Free.XT
open Jvm.Lib.Cold (StaticIs)
abbrev ST : String := "java/lang/String"
/-- every table word that New1's law asks, flat -/
abbrev words : List Jvm.Cond := [.code New1.yN New1.yB 2 none, .initialized ST, .methodLink ST 27 New4.yN, .instanceMethod New4.yN,
  .code New4.yN New4.yB 6 none, .fieldLink ST 38 ST "COMPACT_STRINGS" "Z", .laysFinal ST ST "value" "[B", .fieldLink ST 9 ST "value" "[B", .laysFinal ST ST "coder" "B", .fieldLink ST 15 ST "coder" "B",
  .methodLink ST 1 Lib.objectInit, .instanceMethod Lib.objectInit, .code Lib.objectInit ⟨#[0xb1]⟩ 1 none, .methodLink ST 177 Cmp3.yN, .static Cmp3.yN, .methodLink ST 47 CodL.yN, .static CodL.yN,
  .code Cmp3.yN Cmp3.yB 6 (some (.array .byte)), .initialized U16, .arrayClass .byte, .methodLink U16 115 Cmp5.yN, .static Cmp5.yN, .code Cmp5.yN Cmp5.yB 7 (some .int), .code CodL.yN CodL.yB 2 (some .byte)]
theorem tab_of {a : Array Value} {s : State} (h : ∀ w ∈ words, w.before a s = true) : New1.tab.before a s = true := by
  have h5 : Cmp5.tab.before a s = true := unparts (wk h (.code Cmp5.yN Cmp5.yB 7 (some .int))) (wks h (.initialized Cmp5.yN.cls :: Cmp5.site))
  have hc : CodL.tab.before a s = true := unparts (wk h (.code CodL.yN CodL.yB 2 (some .byte))) (wks h (.initialized CodL.yN.cls :: CodL.site))
  have q5 : ∀ w ∈ Cmp5.tab :: words, w.before a s = true := fun w hw => (List.mem_cons.mp hw).elim (fun e => e ▸ h5) (h w)
  have h3 : Cmp3.tab.before a s = true := unparts (wk q5 (.code Cmp3.yN Cmp3.yB 6 (some (.array .byte)))) (wks q5 (.initialized Cmp3.yN.cls :: Cmp3.site))
  have q3 : ∀ w ∈ Cmp3.tab :: CodL.tab :: words, w.before a s = true := fun w hw => (List.mem_cons.mp hw).elim (fun e => e ▸ h3) fun hw => (List.mem_cons.mp hw).elim (fun e => e ▸ hc) (h w)
  have h4 : New4.tab.before a s = true := unparts (wk q3 (.code New4.yN New4.yB 6 none)) (wks q3 (.initialized New4.yN.cls :: New4.site))
  have q4 : ∀ w ∈ New4.tab :: words, w.before a s = true := fun w hw => (List.mem_cons.mp hw).elim (fun e => e ▸ h4) (h w)
  exact unparts (wk q4 (.code New1.yN New1.yB 2 none)) (wks q4 (.initialized New1.yN.cls :: New1.site))
/-- the words ride from the start Z to the walk's own state -/
theorem moved {Z s : State} {a0 args : Array Value} (hZ : Z.Warmed39 s.vm) (hw : ∀ d ∈ words, d.before a0 Z = true) : ∀ d ∈ words, d.before args s = true := fun d hd => by
  have q := hw d hd
  have t : ∀ d ∈ words, d = .arrayClass .byte ∨ (d.onTables && d.keepsFace) = true := by decide +kernel
  rcases t d hd with rfl | t
  · exact RoadKit.mvA hZ q
  · exact RoadKit.mv hZ q t
/-- WHAT COMES BACK, over the tables of the start Z: h the heap at the call, h' behind it -/
def Q (Z : State) (x : Addr) (A : Cell) (h : Heap) (v : Option Value) (h' : Heap) (L : List Loc) : Prop := v = none ∧ (∀ y ∈ L, y.base = x) ∧ RoadKit.Keep h h' [x] ∧ h'.size = h.size + 1 ∧ RoadKit.Exa Z h' x ST ∧ RoadKit.Fld Z h' x ST "value" "[B" (.ref h.size) ∧ RoadKit.Fld Z h' x ST "coder" "B" (.int 0) ∧
  (∃ V : Cell, RoadKit.Arr Z h' h.size V .byte ∧ V.vm = .none ∧ Z.vm.findClass "[B" = some V.cls ∧ V.slots.size = A.slots.size ∧ ∀ j, j < A.slots.size → V.slots[j]? = some (.int (lo8 (cv A j)))) ∧
  ∀ (O n d : String) (w : Value), RoadKit.Fld Z h x O n d w → RoadKit.slotOf Z O n d ≠ RoadKit.slotOf Z ST "value" "[B" → RoadKit.slotOf Z O n d ≠ RoadKit.slotOf Z ST "coder" "B" → RoadKit.Fld Z h' x O n d w
/-- **new String(chars) AT A CALL, IN THE ROAD'S FORM**: for specialBack behind newO: x the fresh String, b the char[] with the cell A -/
theorem back {p : Program} {l : Launch} {e : Env} {R : Room} {s : State} {args : Array Value} {below : List Frame} {len W : Nat} {Z : State} {a0 : Array Value} {h : Heap} (hZ : Z.Warmed39 s.vm) (hw : ∀ d ∈ words, d.before a0 Z = true) {kI : Nat} (wi : (Jvm.Cond.instantiable ST kI).before a0 Z = true)
    {x b : Addr} {A : Cell} {z : Int32} {v0 c0 : Value} (E : RoadKit.Exa Z h x ST) (V : RoadKit.Fld Z h x ST "value" "[B" v0) (C : RoadKit.Fld Z h x ST "coder" "B" c0) (K : RoadKit.Arr Z h b A .char) (hty : Typed .char A) (S : RoadKit.Sta Z h ST "COMPACT_STRINGS" "Z" (.int z)) (hz : ¬ z = 0)
    (l0 : 0 < A.slots.size) (l2 : A.slots.size ≤ 536870912) (hp : ∀ i, i < A.slots.size → ¬ 255 < cv A i) (hfr : 4 ≤ R.frames) (hlo : W + 65 ≤ R.locals) :
    Back l R p e below s args New1.yN len W (fun P a => a = #[.ref x, .ref b] ∧ P.U.heap = h ∧ P.cells + 1 ≤ R.cells ∧ P.slots + A.slots.size ≤ R.slots)
      (fun P _ v B => ∃ L, Q Z x A h v B.U.heap L ∧ B.locs = P.locs ++ L ∧ B.cells = P.cells + 1 ∧ B.slots = P.slots + A.slots.size) := by
  intro m meth c P g ig mk a X hg hsize hdg hW hn hp'
  obtain ⟨rfl, rfl, r1, r2⟩ := hp'
  have al : Z.vm.Alike P.U.vm := hZ.alike.trans X.warmed.alike
  obtain ⟨D, cfV, kV, iV, fV, hD, gV, stV, knV, obV, asV, slV⟩ := id V
  obtain ⟨D', cfC, kC, iC, fC, hD', gC, stC, -, -, asC, slC⟩ := id C
  cases hD.symm.trans hD'
  obtain ⟨D2, kD, e1, e2, e3, e4, e5⟩ := id E
  cases hD.symm.trans e1
  obtain ⟨c2, k2, i1, i2, i3, -⟩ := Cond.instantiable_spec wi
  cases e2.symm.trans i1
  cases e3.symm.trans i2
  obtain ⟨kU, u1, u2⟩ := al.2.2 _ _ e3
  have hB : Blank ST x D P.U := ⟨hD, ⟨knV, fun q hq => by rw [hq] at obV; cases obV⟩, by rw [al.findClass]; exact e2, kU, u1, by rw [u2]; exact i3, by rw [u2]; exact e5 i3⟩
  have F1 : Found ST "value" "[B" fV P.U := ⟨SBG.found_only al ⟨cfV, kV, iV, gV⟩, stV⟩
  have F2 : Found ST "coder" "B" fC P.U := ⟨SBG.found_only al ⟨cfC, kC, iC, gC⟩, stC⟩
  have hA : Ch b A P.U := ⟨⟨K.1, State.isArrayOf_alike al K.2.1, K.2.2, by omega⟩, hty⟩
  have hS : StaticIs P.U ST "COMPACT_STRINGS" "Z" (.int z) := by
    obtain ⟨cfS, iS, kS, fS, st, cS, t1, t2, t3, t4, t5, t6, t7⟩ := S
    exact StaticIs.there (s := { Z with heap := P.U.heap }) ⟨cfS, iS, kS, fS, st, cS, t1, t2, t3, t4, t5, (fun q => by rw [q] at t6; cases t6), t7⟩ al rfl
  obtain ⟨v, B, X', ⟨⟨hv, E', V', q1, q2, q3, q4, q5, q6, q7, q8, q9, q10, q11⟩, hl, hc, hs⟩, st⟩ := New1.pays x D fV fC b A z (tab_of (moved hZ hw)) hfr hlo m meth c P g ig mk _ X hg hsize hdg hW hn ⟨r1, r2, rfl, hB, F1, F2, hA, hS, hz, l0, l2, hp⟩
  have al' : Z.vm.Alike B.U.vm := hZ.alike.trans X'.warmed.alike
  have hsz : E'.slots.size = D.slots.size := by
    obtain ⟨-, -, -, kB, w1, w2, w3⟩ := q1
    obtain ⟨kB', y1, y2⟩ := al'.2.2 _ _ e3
    rw [q2.2.1] at w1
    cases w1.symm.trans y1
    rw [w3, e5 i3, y2]
  refine ⟨v, B, X', ⟨_, ⟨hv, ?_, ⟨by omega, fun y cy hy hn' => q10 y cy (by simpa using hn') hy, fun y cy hy => ?_⟩, q11, ⟨E', _, q1.1, by rw [q2.2.1]; exact e2, by rw [q2.2.1]; exact e3, by rw [q2.1]; exact obV, fun _ => by rw [hsz]; exact e5 i3⟩,
    ⟨E', cfV, kV, iV, fV, q1.1, gV, stV, by rw [q2.1]; exact knV, by rw [q2.1]; exact obV, by rw [q2.2.1]; exact asV, q3⟩, ⟨E', cfC, kC, iC, fC, q1.1, gC, stC, by rw [q2.1]; exact knV, by rw [q2.1]; exact obV, by rw [q2.2.1]; exact asC, q4⟩,
    ⟨V', ⟨q5.1, State.isArrayOf_alike al'.symm q5.2.1, q5.2.2.1⟩, q6, by rw [← al'.findClass]; exact q7, q8, fun j hj => by have := q9 j hj; rwa [Nat.zero_add] at this⟩, fun O n d w F n1 n2 => ?_⟩, hl, hc, hs⟩, st⟩
  · intro y hy
    simp only [List.mem_cons, List.not_mem_nil, or_false] at hy
    rcases hy with rfl | rfl <;> rfl
  · by_cases q : y = x
    · subst q
      cases hD.symm.trans hy
      exact ⟨E', q1.1, q2.2.1, q2.1, hsz⟩
    · exact ⟨cy, q10 y cy q hy, rfl, rfl, rfl⟩
  · obtain ⟨D3, cf, k, i, f, g1, g2, g3, g4, g5, g6, g7⟩ := F
    cases hD.symm.trans g1
    simp only [RoadKit.slotOf, g2, gV, gC, Option.map_some, Option.getD_some] at n1 n2
    exact ⟨E', cf, k, i, f, q1.1, g2, g3, by rw [q2.1]; exact g4, by rw [q2.1]; exact g5, by rw [q2.2.1]; exact g6, by rw [q2.2.2 f.slot (by simp [n1, n2])]; exact g7⟩
end StrChars.Road
namespace StrChars.Road
open Jvm Sem ClassFile Op Lib Jvm.Stand Jvm.Free Jvm.Free.XT
/-- WHAT COMES BACK, the byte[] as a list of values -/
def QA (Z : State) (x : Addr) (zn : Int32) (cs : List Int32) (h : Heap) (v : Option Value) (h' : Heap) (L : List Loc) : Prop := v = none ∧ (∀ y ∈ L, y.base = x) ∧ RoadKit.Keep h h' [x] ∧ h'.size = h.size + 1 ∧ RoadKit.Exa Z h' x ST ∧ RoadKit.Fld Z h' x ST "value" "[B" (.ref h.size) ∧ RoadKit.Fld Z h' x ST "coder" "B" (.int 0) ∧
  (∃ kb, Z.vm.findClass "[B" = some kb ∧ RoadKit.Arv Z h' h.size kb .byte zn (cs.map fun c => .int (lo8 c)) (.int 0)) ∧
  ∀ (O n d : String) (w : Value), RoadKit.Fld Z h x O n d w → RoadKit.slotOf Z O n d ≠ RoadKit.slotOf Z ST "value" "[B" → RoadKit.slotOf Z O n d ≠ RoadKit.slotOf Z ST "coder" "B" → RoadKit.Fld Z h' x O n d w
/-- **new String(chars) AT A CALL, THE ARRAYS AS LISTS**: the char[] at b holds cs, not empty, no char above 255 -/
theorem backArv {p : Program} {l : Launch} {e : Env} {R : Room} {s : State} {args : Array Value} {below : List Frame} {len W : Nat} {Z : State} {a0 : Array Value} {h : Heap} (hZ : Z.Warmed39 s.vm) (hw : ∀ d ∈ words, d.before a0 Z = true) {kI : Nat} (wi : (Jvm.Cond.instantiable ST kI).before a0 Z = true)
    {x b : Addr} {k : ClassId} {zn z : Int32} {cs : List Int32} {dv v0 c0 : Value} (E : RoadKit.Exa Z h x ST) (V : RoadKit.Fld Z h x ST "value" "[B" v0) (C : RoadKit.Fld Z h x ST "coder" "B" c0) (K : RoadKit.Arv Z h b k .char zn (cs.map Value.int) dv) (S : RoadKit.Sta Z h ST "COMPACT_STRINGS" "Z" (.int z)) (hz : ¬ z = 0)
    (hlen : zn.toNatClampNeg = cs.length) (h0 : 0 < cs.length) (hbig : cs.length ≤ 536870912) (hall : ∀ c ∈ cs, ¬ 255 < c) (hfr : 4 ≤ R.frames) (hlo : W + 65 ≤ R.locals) :
    Back l R p e below s args New1.yN len W (fun P a => a = #[.ref x, .ref b] ∧ P.U.heap = h ∧ P.cells + 1 ≤ R.cells ∧ P.slots + cs.length ≤ R.slots)
      (fun P _ v B => ∃ L, QA Z x zn cs h v B.U.heap L ∧ B.locs = P.locs ++ L ∧ B.cells = P.cells + 1 ∧ B.slots = P.slots + cs.length) := by
  obtain ⟨A, K1, K2, K3, K4, K5, K6⟩ := K
  have e : A.slots.size = cs.length := K3.trans hlen
  have hat : ∀ (i : Nat) (hi : i < cs.length), A.slots[i]? = some (.int cs[i]) := fun i hi => by rw [K5 i (by omega)]; simp [List.getD_eq_getElem?_getD, hi]
  have hcv : ∀ (i : Nat) (hi : i < cs.length), cv A i = cs[i] := fun i hi => by unfold cv; rw [hat i hi]
  have hty : Typed .char A := fun i v hv => by
    have hi : i < A.slots.size := (Array.getElem?_eq_some_iff.mp hv).1
    have q := K5 i hi
    rw [hv] at q
    rw [Option.some.inj q]
    exact K6 i hi
  refine Back.mono (back hZ hw wi E V C K1 hty S hz (by omega) (by omega) (fun i hi => by rw [hcv i (by omega)]; exact hall _ (List.getElem_mem _)) hfr hlo) (fun P a hp => ⟨hp.1, hp.2.1, hp.2.2.1, by rw [e]; exact hp.2.2.2⟩) (fun P a v B hp hq => ?_)
  obtain ⟨L, ⟨q1, q2, q3, q4, q5, q6, q7, ⟨V', v1, v2, v3, v4, v5⟩, q9⟩, hl, hc, hs⟩ := hq
  refine ⟨L, ⟨q1, q2, q3, q4, q5, q6, q7, ⟨V'.cls, v3, V', v1, rfl, by rw [v4, e, hlen], K4, fun i hi => ?_, fun i hi => ?_⟩, q9⟩, hl, hc, by rw [hs, e]⟩
  · have hi' : i < cs.length := by omega
    rw [v5 i (by omega), hcv i hi']; simp [List.getD_eq_getElem?_getD, hi']
  · have hi' : i < cs.length := by omega
    simp only [List.getD_eq_getElem?_getD, List.getElem?_map, List.getElem?_eq_getElem hi', Option.map_some, Option.getD_some]
    exact fits_lo8 _
end StrChars.Road
namespace StrChars.Road
open Jvm Sem ClassFile Op Lib Jvm.Stand Jvm.Free Jvm.Free.XT
/-- WHAT COMES BACK, in the writer's own shape -/
def QV (Z : State) (x : Addr) (N : Int32) (bs : List Int32) (h : Heap) (n0 : Nat) (v : Option Value) (h' : Heap) (L : List Loc) : Prop := v = none ∧ RoadKit.Fr n0 L ∧ RoadKit.Keep h h' [x] ∧ RoadKit.Exa Z h' x ST ∧ RoadKit.Fld Z h' x ST "coder" "B" (.int 0) ∧
  ∃ (t : Addr) (kb : ClassId), n0 ≤ t ∧ h.size ≤ t ∧ ¬ t = x ∧ RoadKit.Fld Z h' x ST "value" "[B" (.ref t) ∧ RoadKit.Arv Z h' t kb .byte N (bs.map Value.int) (.int 0)
/-- **new String(chars) AT A CALL, FOR THE WRITER**: a char[] of n known ints, each 0 to 255 -/
theorem backV {p : Program} {l : Launch} {e : Env} {R : Room} {s : State} {args : Array Value} {below : List Frame} {len W : Nat} {Z : State} {a0 : Array Value} {h : Heap} (hZ : Z.Warmed39 s.vm) (hw : ∀ d ∈ words, d.before a0 Z = true) {kI : Nat} (wi : (Jvm.Cond.instantiable ST kI).before a0 Z = true)
    {x b : Addr} {kC : ClassId} {cs bs : List Int32} {d v0 c0 : Value} {z N : Int32} {n n0 : Nat} (hx0 : n0 ≤ x) (hh0 : n0 ≤ h.size) (E : RoadKit.Exa Z h x ST) (V : RoadKit.Fld Z h x ST "value" "[B" v0) (C : RoadKit.Fld Z h x ST "coder" "B" c0) (K : RoadKit.Arv Z h b kC .char N (cs.map Value.int) d) (S : RoadKit.Sta Z h ST "COMPACT_STRINGS" "Z" (.int z)) (hz : ¬ z = 0)
    (hn : cs.length = n) (hN : N = Int32.ofNat n) (l0 : 0 < n) (l2 : n ≤ 4000) (hp : ∀ c ∈ cs, ¬ c < 0 ∧ ¬ (255 : Int32) < c) (hb : bs = cs.map (fun c => c.toInt8.toInt32)) (hfr : 4 ≤ R.frames) (hlo : W + 65 ≤ R.locals) :
    Back l R p e below s args (⟨"java/lang/String", "<init>", "([C)V"⟩ : MethodName) len W (fun P a => a = #[.ref x, .ref b] ∧ P.U.heap = h ∧ P.cells + 1 ≤ R.cells ∧ P.slots + n ≤ R.slots)
      (fun P _ v B => ∃ L, QV Z x N bs h n0 v B.U.heap L ∧ B.locs = P.locs ++ L ∧ B.cells = P.cells + 1 ∧ B.slots = P.slots + n) := by
  subst hn hN hb
  refine Back.mono (backArv hZ hw wi E V C K S hz (n32 (by omega)) l0 (by omega) (fun c hc => (hp c hc).2) hfr hlo) (fun P a hp => hp) (fun P a v B hp hq => ?_)
  obtain ⟨L, ⟨q1, q2, q3, q4, q5, q6, q7, ⟨kb, v1, v2⟩, q9⟩, hl, hc, hs⟩ := hq
  exact ⟨L, ⟨q1, fun y hy => by rw [q2 y hy]; exact hx0, q3, q5, q7, h.size, kb, hh0, Nat.le_refl _, Nat.ne_of_gt E.lt, q6, by rw [List.map_map]; exact v2⟩, hl, hc, hs⟩
end StrChars.Road
end Jvm.Pilot.@@N@@

namespace Jvm.Pilot.@@N@@
open Jvm Jvm.ClassFile Sem Op Lib Jvm.Free Jvm.Stand Jvm.LawKit Jvm.RoadKit Bundle Jvm.Pilot.@@N@@.Jvm.D
open Jvm.Free.Fl (NoNaN64 Fin64 Nz64)
/-! doubles: exact values in units of the least double -/
def own_z (x : UInt64) : Int := FP.Core.zval FP.Core.b64 (FP.Core.val64 x)
theorem own_nn {i : Int} {x : UInt64} (h : FP.Core.DInt i x) : NoNaN64 x := Fl.val64_no.mpr (FP.Core.DInt_ne_nan h)
theorem own_cmpz {x y : UInt64} (hx : NoNaN64 x) (hy : NoNaN64 y) : FP.dcmp x y = some (compare (own_z x) (own_z y)) := FP.Core.dcmp_zval (Fl.val64_no.mp hx) (Fl.val64_no.mp hy)
theorem own_d0 : FP.Core.DInt 0 FP.dconst0 := by
  have h := FP.Core.l2d_int (a := 0) (by decide)
  rw [FP.Core.l2d_zero] at h; exact h
theorem own_d1 : FP.Core.DInt 1 FP.dconst1 := FP.Core.dint_one
theorem own_zi {i : Int} {x : UInt64} (h : FP.Core.DInt i x) : own_z x = i * (FP.Core.one64 : Int) := FP.Core.DInt_zval h
theorem own_fini {i : Int} {x : UInt64} (h : FP.Core.DInt i x) : Fin64 x := by
  have h' : FP.Core.Whole i (FP.Core.val64 x) := h
  cases hv : FP.Core.val64 x with
  | nan => rw [hv] at h'; exact h'.elim
  | inf s => rw [hv] at h'; exact h'.elim
  | fin s c q => exact Fl.fin64_core.mpr ⟨s, c, q, hv⟩
theorem own_one : (0 : Int) < (FP.Core.one64 : Int) := by have := FP.Core.one64_pos; omega
theorem own_nz {x : UInt64} (h : own_z x ≠ 0) : Nz64 x := Fl.nz64_core.mpr fun ⟨s, q, e⟩ => h (by
  show FP.Core.zval FP.Core.b64 (FP.Core.val64 x) = 0
  rw [e]; show FP.Core.signed s (0 * _) = 0; rw [Nat.zero_mul]; cases s <;> rfl)
theorem own_nzi {i : Int} {x : UInt64} (h : FP.Core.DInt i x) (hi : i ≠ 0) : Nz64 x := own_nz (by
  rw [own_zi h]; intro q; rcases Int.mul_eq_zero.mp q with r | r
  · exact hi r
  · have := own_one; omega)
theorem own_zn (x : UInt64) : (own_z x).natAbs = FP.Core.zmag FP.Core.b64 (FP.Core.val64 x) := FP.Core.natAbs_signed _ _
/-- the quotient, by the two values alone -/
theorem own_quot {x y : UInt64} (hx : Fin64 x) (hy : Fin64 y) (hz : own_z y ≠ 0) :
    FP.Core.val64 (FP.ddiv x y) = FP.Core.roundRatio FP.Core.b64 (FP.Core.sgn (FP.Core.val64 x) != FP.Core.sgn (FP.Core.val64 y)) (own_z x).natAbs (own_z y).natAbs 0 := by
  obtain ⟨s, c, q, ex⟩ := Fl.fin64_core.mp hx
  obtain ⟨t, d, r, ey⟩ := Fl.fin64_core.mp hy
  have fx : FP.Core.fits FP.Core.b64 (.fin s c q) := ex ▸ FP.Core.val64_fits x
  have fy : FP.Core.fits FP.Core.b64 (.fin t d r) := ey ▸ FP.Core.val64_fits y
  have hd : d ≠ 0 := fun h => hz (by
    show FP.Core.zval FP.Core.b64 (FP.Core.val64 y) = 0
    rw [ey, h]; show FP.Core.signed t (0 * _) = 0; rw [Nat.zero_mul]; cases t <;> rfl)
  rw [own_zn, own_zn, show FP.ddiv x y = FP.Core.ddiv x y from rfl, FP.Core.val64_ddiv, ex, ey]
  show (if d = 0 then _ else FP.Core.roundRatio FP.Core.b64 (s != t) c d (q - r)) = FP.Core.roundRatio FP.Core.b64 (s != t) (c * 2 ^ (q - FP.Core.b64.qmin).toNat) (d * 2 ^ (r - FP.Core.b64.qmin).toNat) 0
  rw [if_neg hd]
  refine FP.Core.roundRatio_congr (Nat.pos_of_ne_zero hd) (Nat.mul_pos (Nat.pos_of_ne_zero hd) (Nat.two_pow_pos _)) ?_
  have h1 := fx.2.1
  have h2 := fy.2.1
  have e1 : (r - FP.Core.b64.qmin).toNat + (q - r - 0).toNat = (q - FP.Core.b64.qmin).toNat + (0 - (q - r)).toNat := by omega
  calc c * (d * 2 ^ (r - FP.Core.b64.qmin).toNat) * 2 ^ (q - r - 0).toNat = c * d * (2 ^ (r - FP.Core.b64.qmin).toNat * 2 ^ (q - r - 0).toNat) := by
        rw [Nat.mul_assoc, Nat.mul_assoc, Nat.mul_assoc]
    _ = c * d * (2 ^ (q - FP.Core.b64.qmin).toNat * 2 ^ (0 - (q - r)).toNat) := by rw [← Nat.pow_add, ← Nat.pow_add, e1]
    _ = c * 2 ^ (q - FP.Core.b64.qmin).toNat * d * 2 ^ (0 - (q - r)).toNat := by
        rw [Nat.mul_right_comm c _ d, Nat.mul_assoc (c * d)]
theorem own_noNaN_of {x : UInt64} {s : Bool} {A B : Nat} {e : Int} (h : FP.Core.val64 x = FP.Core.roundRatio FP.Core.b64 s A B e) : NoNaN64 x :=
  Fl.val64_no.mpr (h ▸ FP.Core.roundRatio_ne_nan _ _ _ _ _)
theorem own_div_nn {x y : UInt64} (hx : Fin64 x) (hy : Fin64 y) (hz : own_z y ≠ 0) : NoNaN64 (FP.ddiv x y) := Fl.ddiv_out hx.noNaN hy (own_nz hz)
/-- what is rounded below (above) a double stays there -/
theorem own_rr_le {s : Bool} {A B : Nat} {V : UInt64} (hB : 0 < B) (hV : NoNaN64 V) (h : A * FP.Core.one64 ≤ (own_z V).natAbs * B) :
    FP.Core.zmag FP.Core.b64 (FP.Core.roundRatio FP.Core.b64 s A B 0) ≤ (own_z V).natAbs := by
  rw [own_zn] at h ⊢
  refine FP.Core.zmag_roundRatio_le FP.Core.good_b64 hB (FP.Core.val64_fits V) (Fl.val64_no.mp hV) (e0 := FP.Core.b64.qmin) (Int.le_refl _) (by decide +kernel) ?_
  rw [Int.sub_self]
  show A * 2 ^ (0 - FP.Core.b64.qmin).toNat ≤ _ * 1 * B
  rw [Nat.mul_one, Int.zero_sub, FP.Core.pow_qmin64]; exact h
theorem own_rr_ge {s : Bool} {A B : Nat} {V : UInt64} (hB : 0 < B) (h : (own_z V).natAbs * B ≤ A * FP.Core.one64) :
    (own_z V).natAbs ≤ FP.Core.zmag FP.Core.b64 (FP.Core.roundRatio FP.Core.b64 s A B 0) := by
  rw [own_zn] at h ⊢
  refine FP.Core.zmag_roundRatio_ge FP.Core.good_b64 hB (FP.Core.val64_fits V) (e0 := FP.Core.b64.qmin) (Int.le_refl _) (by decide +kernel) ?_
  rw [Int.sub_self]
  show _ * 1 * B ≤ A * 2 ^ (0 - FP.Core.b64.qmin).toNat
  rw [Nat.mul_one, Int.zero_sub, FP.Core.pow_qmin64]; exact h
theorem own_z_signed {x : UInt64} {s : Bool} {A B : Nat} (h : FP.Core.val64 x = FP.Core.roundRatio FP.Core.b64 s A B 0) :
    own_z x = FP.Core.signed s (FP.Core.zmag FP.Core.b64 (FP.Core.roundRatio FP.Core.b64 s A B 0)) := by
  show FP.Core.signed _ _ = _
  rw [h, FP.Core.sgn_roundRatio]
/-- a quotient of two that are not below nought -/
theorem own_div_ge0 {x y : UInt64} (hx : Fin64 x) (hy : Fin64 y) (hz : own_z y ≠ 0) (h0 : 0 ≤ own_z x) (h1 : 0 ≤ own_z y) : 0 ≤ own_z (FP.ddiv x y) := by
  have hq := own_quot hx hy hz
  rw [own_z_signed hq]
  cases hs : (FP.Core.sgn (FP.Core.val64 x) != FP.Core.sgn (FP.Core.val64 y)) with
  | false => exact Int.natCast_nonneg _
  | true =>
    have hy2 : FP.Core.sgn (FP.Core.val64 y) = false := by
      cases hs2 : FP.Core.sgn (FP.Core.val64 y) with
      | false => rfl
      | true =>
        exfalso; have : own_z y = -(FP.Core.zmag FP.Core.b64 (FP.Core.val64 y) : Int) := by show FP.Core.signed _ _ = _; rw [hs2]; rfl
        omega
    have hx2 : FP.Core.sgn (FP.Core.val64 x) = true := by rw [hy2] at hs; simpa using hs
    have hx3 : own_z x = -(FP.Core.zmag FP.Core.b64 (FP.Core.val64 x) : Int) := by show FP.Core.signed _ _ = _; rw [hx2]; rfl
    have hx4 : (own_z x).natAbs = 0 := by omega
    rw [hx4, FP.Core.roundRatio, if_pos rfl]
    show 0 ≤ FP.Core.signed true (0 * _); rw [Nat.zero_mul]; decide
theorem own_div_le {x y V : UInt64} (hx : Fin64 x) (hy : Fin64 y) (hz : own_z y ≠ 0) (hV : NoNaN64 V) (h0 : 0 ≤ own_z x) (h1 : 0 ≤ own_z y) (h2 : 0 ≤ own_z V)
    (h : own_z x * (FP.Core.one64 : Int) ≤ own_z V * own_z y) : own_z (FP.ddiv x y) ≤ own_z V := by
  have hq := own_quot hx hy hz
  have hge := own_div_ge0 hx hy hz h0 h1
  have hB : 0 < (own_z y).natAbs := by omega
  have h3 : (own_z x).natAbs * FP.Core.one64 ≤ (own_z V).natAbs * (own_z y).natAbs := by
    have e1 : ((own_z x).natAbs : Int) = own_z x := by omega
    have e2 : ((own_z y).natAbs : Int) = own_z y := by omega
    have e3 : ((own_z V).natAbs : Int) = own_z V := by omega
    have : (((own_z x).natAbs * FP.Core.one64 : Nat) : Int) ≤ (((own_z V).natAbs * (own_z y).natAbs : Nat) : Int) := by
      rw [Int.natCast_mul, Int.natCast_mul, e1, e2, e3]; exact h
    exact Int.ofNat_le.mp this
  have := own_rr_le (s := FP.Core.sgn (FP.Core.val64 x) != FP.Core.sgn (FP.Core.val64 y)) hB hV h3
  have h4 : (own_z (FP.ddiv x y)).natAbs ≤ (own_z V).natAbs := by rw [own_zn, hq]; exact this
  omega
/-- two doubles of the same whole value compare as equal -/
theorem own_eq0 {x y : UInt64} {i : Int} (o : CmpOp) (hx : FP.Core.DInt i x) (hy : FP.Core.DInt i y) : cmpValue (FP.dcmp x y) o = 0 := by
  rw [own_cE o (FP.Core.dcmp_int hx hy), own_c_eq rfl]
theorem own_mb {a b A B : Int} (h1 : -A ≤ a) (h2 : a ≤ A) (h3 : -B ≤ b) (h4 : b ≤ B) (h : A * B ≤ 9007199254740992) : (a * b).natAbs ≤ 2 ^ 53 := by
  rw [Int.natAbs_mul]
  have e1 : a.natAbs ≤ A.toNat := by omega
  have e2 : b.natAbs ≤ B.toNat := by omega
  have e3 : a.natAbs * b.natAbs ≤ A.toNat * B.toNat := Nat.mul_le_mul e1 e2
  have e4 : ((A.toNat * B.toNat : Nat) : Int) = A * B := by rw [Int.natCast_mul, Int.toNat_of_nonneg (by omega), Int.toNat_of_nonneg (by omega)]
  have e5 : (2 : Nat) ^ 53 = 9007199254740992 := by decide
  omega
theorem own_dl (a : Int64) {i : Int} (h : a.toInt = i) (hb : i.natAbs ≤ 2 ^ 53) : FP.Core.DInt i (FP.l2d a) := by subst h; exact FP.Core.l2d_int hb
theorem own_lm {a b : Int64} (h : (a.toInt * b.toInt).natAbs ≤ 2 ^ 53) : (a * b).toInt = a.toInt * b.toInt := by
  have e5 : (2 : Nat) ^ 53 = 9007199254740992 := by decide
  exact Jvm.Kit.i64_mul (by omega) (by omega)
theorem own_sgn_mul {s t : Bool} {b : Nat} {k : Int} (hb : 0 < b) (h : FP.Core.signed s (k.natAbs * b) = k * FP.Core.signed t b) : FP.Core.signed (s != t) k.natAbs = k := by
  have hb' : (0 : Int) < (b : Int) := by omega
  have e : ((k.natAbs * b : Nat) : Int) = (k.natAbs : Int) * (b : Int) := Int.natCast_mul _ _
  have key : ∀ z : Int, (k.natAbs : Int) * (b : Int) = z * (b : Int) → (k.natAbs : Int) = z := fun z q => Int.eq_of_mul_eq_mul_right (by omega) q
  cases s <;> cases t
  · show (k.natAbs : Int) = k
    apply key; rw [← e]; exact h
  · show -(k.natAbs : Int) = k
    have h' : ((k.natAbs * b : Nat) : Int) = k * -(b : Int) := h
    have := key (-k) (by rw [← e, h', Int.mul_neg, Int.neg_mul]); omega
  · show -(k.natAbs : Int) = k
    have h' : -((k.natAbs * b : Nat) : Int) = k * (b : Int) := h
    have := key (-k) (by rw [← e, Int.neg_mul, ← h', Int.neg_neg]); omega
  · show (k.natAbs : Int) = k
    have h' : -((k.natAbs * b : Nat) : Int) = k * -(b : Int) := h
    apply key; rw [← e]
    have : -((k.natAbs * b : Nat) : Int) = -(k * (b : Int)) := by rw [h', Int.mul_neg]
    omega
/-- a quotient of whole values that comes out even -/
theorem own_ddiv_int {k j : Int} {x y : UInt64} (hx : FP.Core.DInt (k * j) x) (hy : FP.Core.DInt j y) (hj : j ≠ 0) (hk : k.natAbs ≤ 2 ^ 53) : FP.Core.DInt k (FP.ddiv x y) := by
  have zx := own_zi hx
  have zy := own_zi hy
  have hz : own_z y ≠ 0 := by rw [zy]; exact Int.mul_ne_zero hj (by have := own_one; omega)
  have hq := own_quot (own_fini hx) (own_fini hy) hz
  have ha : (own_z x).natAbs = k.natAbs * (own_z y).natAbs := by rw [zx, zy, Int.mul_assoc, Int.natAbs_mul]
  have hb : 0 < (own_z y).natAbs := by omega
  show FP.Core.Whole k (FP.Core.val64 (FP.ddiv x y))
  rw [hq, ha, FP.Core.roundRatio_congr (A' := k.natAbs) (B' := 1) (e' := 0) hb (by decide) (by rw [Nat.mul_one])]
  refine FP.Core.whole_round FP.Core.good_b64 FP.Core.wide_b64 hk (d := .fin (FP.Core.sgn (FP.Core.val64 x) != FP.Core.sgn (FP.Core.val64 y)) k.natAbs 0) ?_
  show FP.Core.signed _ (k.natAbs * 1) = k * ((1 : Nat) : Int)
  rw [Nat.mul_one, show ((1 : Nat) : Int) = 1 from rfl, Int.mul_one]
  refine own_sgn_mul hb ?_
  have e1 : FP.Core.signed (FP.Core.sgn (FP.Core.val64 x)) (own_z x).natAbs = own_z x := by rw [own_zn]; rfl
  have e2 : FP.Core.signed (FP.Core.sgn (FP.Core.val64 y)) (own_z y).natAbs = own_z y := by rw [own_zn]; rfl
  rw [← ha, e1, e2, zx, zy, Int.mul_assoc]
theorem own_zmag_s (s : Bool) (A B : Nat) (e : Int) : FP.Core.zmag FP.Core.b64 (FP.Core.roundRatio FP.Core.b64 s A B e) = FP.Core.zmag FP.Core.b64 (FP.Core.roundRatio FP.Core.b64 false A B e) := by
  cases s with
  | false => rfl
  | true =>
    rw [show FP.Core.roundRatio FP.Core.b64 true A B e = FP.Core.negate (FP.Core.roundRatio FP.Core.b64 false A B e) from (FP.Core.negate_roundRatio FP.Core.b64 false A B e).symm]
    cases FP.Core.roundRatio FP.Core.b64 false A B e <;> rfl
theorem own_div_n {x y : UInt64} (hx : Fin64 x) (hy : Fin64 y) (hz : own_z y ≠ 0) : (own_z (FP.ddiv x y)).natAbs = FP.Core.zmag FP.Core.b64 (FP.Core.roundRatio FP.Core.b64 false (own_z x).natAbs (own_z y).natAbs 0) := by
  rw [own_zn, own_quot hx hy hz, own_zmag_s]
/-- two quotients of the same ratio, none below nought -/
theorem own_div_congr {x y x' y' : UInt64} (hx : Fin64 x) (hy : Fin64 y) (hz : own_z y ≠ 0) (hx' : Fin64 x') (hy' : Fin64 y') (hz' : own_z y' ≠ 0)
    (g1 : 0 ≤ own_z x) (g2 : 0 ≤ own_z y) (g3 : 0 ≤ own_z x') (g4 : 0 ≤ own_z y') (h : own_z x * own_z y' = own_z x' * own_z y) : own_z (FP.ddiv x y) = own_z (FP.ddiv x' y') := by
  have e1 := own_div_n hx hy hz
  have e2 := own_div_n hx' hy' hz'
  have k1 := own_div_ge0 hx hy hz g1 g2
  have k2 := own_div_ge0 hx' hy' hz' g3 g4
  have h' : (own_z x).natAbs * (own_z y').natAbs = (own_z x').natAbs * (own_z y).natAbs := by rw [← Int.natAbs_mul, ← Int.natAbs_mul, h]
  rw [FP.Core.roundRatio_congr (A' := (own_z x').natAbs) (B' := (own_z y').natAbs) (e' := 0) (by omega) (by omega) (by rw [h'])] at e1
  omega
/-- m * 2^k units is a double -/
theorem own_rep (m k : Nat) (hm : m < 2 ^ 53) (hk : k ≤ 2045) : ∃ V : UInt64, Fin64 V ∧ own_z V = ((m * 2 ^ k : Nat) : Int) := by
  have hq : FP.Core.b64.qmin = -1074 := FP.Core.qmin_b64
  have hq2 : FP.Core.b64.qmax = 971 := by decide
  obtain ⟨c, q, e1, e2⟩ := FP.Core.round_exact FP.Core.good_b64 false (c := m) (q := (k : Int) - 1074) hm (by rw [hq]; omega) (by rw [hq2]; omega)
  have hv : FP.Core.val64 (FP.Core.of64 (FP.Core.round FP.Core.b64 (.fin false m ((k : Int) - 1074)))) = .fin false c q := by
    rw [FP.Core.val64_of64 (FP.Core.round_fits FP.Core.good_b64 _), e1]
  refine ⟨_, Fl.fin64_core.mpr ⟨_, _, _, hv⟩, ?_⟩
  show FP.Core.zval FP.Core.b64 _ = _
  rw [hv]
  show ((FP.Core.inUnits c q FP.Core.b64.qmin : Nat) : Int) = _
  rw [e2, FP.Core.inUnits, hq, show ((k : Int) - 1074 - -1074).toNat = k by omega]
/-- a quotient that comes out even in some binary place -/
theorem own_div_exact {x y : UInt64} (hx : Fin64 x) (hy : Fin64 y) (hz : own_z y ≠ 0) (g1 : 0 ≤ own_z x) (g2 : 0 ≤ own_z y) (m k : Nat) (hm : m < 2 ^ 53) (hk : k ≤ 2045)
    (h : own_z x * (FP.Core.one64 : Int) = ((m * 2 ^ k : Nat) : Int) * own_z y) : own_z (FP.ddiv x y) = ((m * 2 ^ k : Nat) : Int) := by
  obtain ⟨V, fV, zV⟩ := own_rep m k hm hk
  have k1 := own_div_ge0 hx hy hz g1 g2
  have e1 := own_div_n hx hy hz
  have h3 : (own_z x).natAbs * FP.Core.one64 = (own_z V).natAbs * (own_z y).natAbs := by
    have := congrArg Int.natAbs h
    rw [Int.natAbs_mul, Int.natAbs_mul, ← zV] at this
    exact this
  have l1 := own_rr_le (s := false) (A := (own_z x).natAbs) (B := (own_z y).natAbs) (V := V) (by omega) fV.noNaN (Nat.le_of_eq h3)
  have l2 := own_rr_ge (s := false) (A := (own_z x).natAbs) (B := (own_z y).natAbs) (V := V) (by omega) (Nat.le_of_eq h3.symm)
  omega
theorem own_eqz {x y : UInt64} (o : CmpOp) (hx : NoNaN64 x) (hy : NoNaN64 y) (h : own_z x = own_z y) : cmpValue (FP.dcmp x y) o = 0 := by
  rw [own_cE o (own_cmpz hx hy), own_c_eq h]
theorem own_ge0 {x : UInt64} (h : 0 ≤ own_z x) : ¬ own_z x < own_z FP.dconst0 := by rw [own_zi own_d0, Int.zero_mul]; exact Int.not_lt.mpr h
theorem own_le1 {x : UInt64} (h : own_z x ≤ own_z FP.dconst1) : ¬ own_z FP.dconst1 < own_z x := Int.not_lt.mpr h
/-! exact sums, differences, products and quotients in some binary place -/
theorem own_z_neg {x : UInt64} (h : Fin64 x) : own_z (FP.dneg x) = -own_z x ∧ Fin64 (FP.dneg x) := by
  obtain ⟨s, c, q, e⟩ := Fl.fin64_core.mp h
  have hv : FP.Core.val64 (FP.dneg x) = FP.Core.negate (FP.Core.val64 x) := FP.val64_dneg x
  refine ⟨?_, Fl.fin64_core.mpr ⟨!s, c, q, by rw [hv, e]; rfl⟩⟩
  show FP.Core.zval _ _ = -FP.Core.zval _ _
  rw [hv, FP.Core.zval_negate]
theorem own_repI (m : Int) (k : Nat) (hm : m.natAbs < 2 ^ 53) (hk : k ≤ 2045) : ∃ V : UInt64, Fin64 V ∧ own_z V = m * ((2 ^ k : Nat) : Int) := by
  obtain ⟨V, fV, zV⟩ := own_rep m.natAbs k hm hk
  rw [Int.natCast_mul] at zV
  by_cases h : 0 ≤ m
  · exact ⟨V, fV, by rw [zV, Int.natAbs_of_nonneg h]⟩
  · refine ⟨FP.dneg V, (own_z_neg fV).2, ?_⟩
    rw [(own_z_neg fV).1, zV, ← Int.neg_mul]
    congr 1; omega
/-- what is finite and rounds from a value that is a double is that double -/
theorem own_round_exact {x : UInt64} {sg : Bool} {n : Nat} {e : Int} (hv : FP.Core.val64 x = FP.Core.round FP.Core.b64 (.fin sg n e)) (he : FP.Core.b64.qmin ≤ e) {V : UInt64} (fV : Fin64 V) (h : FP.Core.signed sg (FP.Core.inUnits n e FP.Core.b64.qmin) = own_z V) :
    own_z x = own_z V ∧ Fin64 x := by
  have nV := Fl.val64_no.mp fV.noNaN
  have h1 := FP.Core.zval_round_le FP.Core.good_b64 (s := sg) (c := n) (q := e) (V := FP.Core.val64 V) (FP.Core.val64_fits V) nV (e0 := FP.Core.b64.qmin) (Int.le_refl _) he (by
    rw [Int.sub_self]; show _ ≤ _ * ((1 : Nat) : Int); rw [show ((1 : Nat) : Int) = 1 from rfl, Int.mul_one]; exact Int.le_of_eq h)
  have h2 := FP.Core.zval_round_ge FP.Core.good_b64 (s := sg) (c := n) (q := e) (V := FP.Core.val64 V) (FP.Core.val64_fits V) nV (e0 := FP.Core.b64.qmin) (Int.le_refl _) he (by
    rw [Int.sub_self]; show _ * ((1 : Nat) : Int) ≤ _; rw [show ((1 : Nat) : Int) = 1 from rfl, Int.mul_one]; exact Int.le_of_eq h.symm)
  have hz : own_z x = own_z V := by
    show FP.Core.zval _ (FP.Core.val64 x) = FP.Core.zval _ (FP.Core.val64 V)
    rw [hv]; exact Int.le_antisymm h1 h2
  refine ⟨hz, ?_⟩
  have nx : NoNaN64 x := Fl.val64_no.mpr (by rw [hv]; exact fun z => FP.Core.roundRatio_ne_nan _ _ _ _ _ z)
  cases hx : FP.Core.val64 x with
  | nan => exact absurd hx (Fl.val64_no.mp nx)
  | fin s c q => exact Fl.fin64_core.mpr ⟨s, c, q, hx⟩
  | inf s =>
    exfalso
    have b := (Fl.fin64_core.mp fV).zval_lt
    have e1 : (own_z x).natAbs = FP.Core.b64.tails * 2 ^ (FP.Core.b64.exps - 2) := by rw [own_zn, hx]; rfl
    have e2 : (own_z V).natAbs = FP.Core.zmag FP.Core.b64 (FP.Core.val64 V) := own_zn V
    rw [hz, e2] at e1
    omega
theorem own_add_exact {x y : UInt64} (hx : Fin64 x) (hy : Fin64 y) (m : Int) (k : Nat) (hm : m.natAbs < 2 ^ 53) (hk : k ≤ 2045) (h : own_z x + own_z y = m * ((2 ^ k : Nat) : Int)) : own_z (FP.dadd x y) = m * ((2 ^ k : Nat) : Int) ∧ Fin64 (FP.dadd x y) := by
  obtain ⟨V, fV, zV⟩ := own_repI m k hm hk
  obtain ⟨s, c, q, ex⟩ := Fl.fin64_core.mp hx
  obtain ⟨t, d, r, ey⟩ := Fl.fin64_core.mp hy
  obtain ⟨sg, n, e, e1, e2, e3⟩ := FP.Core.sum_units (f := FP.Core.b64) (ex ▸ FP.Core.val64_fits x) (ey ▸ FP.Core.val64_fits y)
  have hv : FP.Core.val64 (FP.dadd x y) = FP.Core.round FP.Core.b64 (.fin sg n e) := by
    rw [show FP.dadd x y = FP.Core.dadd x y from rfl, FP.Core.val64_dadd, ex, ey, e1]
  rw [← ex, ← ey] at e3
  rw [← zV]
  exact own_round_exact hv e2 fV (e3.trans (h.trans zV.symm))
theorem own_sub_exact {x y : UInt64} (hx : Fin64 x) (hy : Fin64 y) (m : Int) (k : Nat) (hm : m.natAbs < 2 ^ 53) (hk : k ≤ 2045) (h : own_z x - own_z y = m * ((2 ^ k : Nat) : Int)) : own_z (FP.dsub x y) = m * ((2 ^ k : Nat) : Int) ∧ Fin64 (FP.dsub x y) := by
  obtain ⟨V, fV, zV⟩ := own_repI m k hm hk
  obtain ⟨s, c, q, ex⟩ := Fl.fin64_core.mp hx
  obtain ⟨t, d, r, ey⟩ := Fl.fin64_core.mp hy
  have fy : FP.Core.fits FP.Core.b64 (.fin (!t) d r) := FP.Core.negate_fits (d := .fin t d r) (ey ▸ FP.Core.val64_fits y)
  obtain ⟨sg, n, e, e1, e2, e3⟩ := FP.Core.sum_units (f := FP.Core.b64) (ex ▸ FP.Core.val64_fits x) fy
  have hv : FP.Core.val64 (FP.dsub x y) = FP.Core.round FP.Core.b64 (.fin sg n e) := by
    rw [show FP.dsub x y = FP.Core.dsub x y from rfl, FP.Core.val64_dsub, ex, ey, ← e1]; rfl
  have hn : FP.Core.zval FP.Core.b64 (.fin (!t) d r) = -own_z y := by
    show FP.Core.zval FP.Core.b64 (FP.Core.negate (.fin t d r)) = -FP.Core.zval FP.Core.b64 (FP.Core.val64 y)
    rw [FP.Core.zval_negate, ey]
  rw [← ex, hn] at e3
  rw [← zV]
  exact own_round_exact hv e2 fV (e3.trans (by rw [zV, ← h]; rfl))
theorem own_fin_of_z {x V : UInt64} (nx : NoNaN64 x) (fV : Fin64 V) (hz : own_z x = own_z V) : Fin64 x := by
  cases hx : FP.Core.val64 x with
  | nan => exact absurd hx (Fl.val64_no.mp nx)
  | fin s c q => exact Fl.fin64_core.mpr ⟨s, c, q, hx⟩
  | inf s =>
    exfalso
    have b := (Fl.fin64_core.mp fV).zval_lt
    have e1 : (own_z x).natAbs = FP.Core.b64.tails * 2 ^ (FP.Core.b64.exps - 2) := by rw [own_zn, hx]; rfl
    have e2 : (own_z V).natAbs = FP.Core.zmag FP.Core.b64 (FP.Core.val64 V) := own_zn V
    rw [hz, e2] at e1
    omega
theorem own_divI_exact {x y : UInt64} (hx : Fin64 x) (hy : Fin64 y) (hz : own_z y ≠ 0) (m : Int) (k : Nat) (hm : m.natAbs < 2 ^ 53) (hk : k ≤ 2045)
    (h : own_z x * (FP.Core.one64 : Int) = m * ((2 ^ k : Nat) : Int) * own_z y) : own_z (FP.ddiv x y) = m * ((2 ^ k : Nat) : Int) ∧ Fin64 (FP.ddiv x y) := by
  obtain ⟨V, fV, zV⟩ := own_repI m k hm hk
  have hq := own_quot hx hy hz
  have nn := own_div_nn hx hy hz
  have hb : 0 < (own_z y).natAbs := by omega
  have h3 : (own_z x).natAbs * FP.Core.one64 = (own_z V).natAbs * (own_z y).natAbs := by
    have := congrArg Int.natAbs h
    rw [Int.natAbs_mul, Int.natAbs_mul, ← zV] at this
    exact this
  have l1 := own_rr_le (s := FP.Core.sgn (FP.Core.val64 x) != FP.Core.sgn (FP.Core.val64 y)) (A := (own_z x).natAbs) (B := (own_z y).natAbs) (V := V) hb fV.noNaN (Nat.le_of_eq h3)
  have l2 := own_rr_ge (s := FP.Core.sgn (FP.Core.val64 x) != FP.Core.sgn (FP.Core.val64 y)) (A := (own_z x).natAbs) (B := (own_z y).natAbs) (V := V) hb (Nat.le_of_eq h3.symm)
  have hz' : own_z (FP.ddiv x y) = own_z V := by
    rw [own_z_signed hq, Nat.le_antisymm l1 l2]
    refine own_sgn_mul hb ?_
    have e1 : FP.Core.signed (FP.Core.sgn (FP.Core.val64 x)) (own_z x).natAbs = own_z x := by rw [own_zn]; rfl
    have e2 : FP.Core.signed (FP.Core.sgn (FP.Core.val64 y)) (own_z y).natAbs = own_z y := by rw [own_zn]; rfl
    rw [← h3, FP.Core.signed_mul, e1, e2, h, zV]
  exact ⟨hz'.trans zV, own_fin_of_z nn fV hz'⟩
/-! products, by the two values alone -/
theorem own_prod {x y : UInt64} (hx : Fin64 x) (hy : Fin64 y) :
    FP.Core.val64 (FP.dmul x y) = FP.Core.roundRatio FP.Core.b64 (FP.Core.sgn (FP.Core.val64 x) != FP.Core.sgn (FP.Core.val64 y)) ((own_z x).natAbs * (own_z y).natAbs) (FP.Core.one64 * FP.Core.one64) 0 := by
  obtain ⟨s, c, q, ex⟩ := Fl.fin64_core.mp hx
  obtain ⟨t, d, r, ey⟩ := Fl.fin64_core.mp hy
  have fx : FP.Core.fits FP.Core.b64 (.fin s c q) := ex ▸ FP.Core.val64_fits x
  have fy : FP.Core.fits FP.Core.b64 (.fin t d r) := ey ▸ FP.Core.val64_fits y
  have hq : 0 < FP.Core.one64 * FP.Core.one64 := Nat.mul_pos FP.Core.one64_pos FP.Core.one64_pos
  rw [own_zn, own_zn, show FP.dmul x y = FP.Core.dmul x y from rfl, FP.Core.val64_dmul, ex, ey]
  show FP.Core.roundRatio FP.Core.b64 (s != t) (c * d) 1 (q + r) = FP.Core.roundRatio FP.Core.b64 (s != t) (c * 2 ^ (q - FP.Core.b64.qmin).toNat * (d * 2 ^ (r - FP.Core.b64.qmin).toNat)) (FP.Core.one64 * FP.Core.one64) 0
  refine FP.Core.roundRatio_congr Nat.one_pos hq ?_
  have h1 := fx.2.1
  have h2 := fy.2.1
  have e1 : (-FP.Core.b64.qmin).toNat + (-FP.Core.b64.qmin).toNat + (q + r - 0).toNat = (q - FP.Core.b64.qmin).toNat + (r - FP.Core.b64.qmin).toNat + (0 - (q + r)).toNat := by
    have hm : FP.Core.b64.qmin = -1074 := by decide
    rw [hm] at h1 h2 ⊢; omega
  rw [← FP.Core.pow_qmin64, Nat.mul_one]
  calc c * d * (2 ^ (-FP.Core.b64.qmin).toNat * 2 ^ (-FP.Core.b64.qmin).toNat) * 2 ^ (q + r - 0).toNat
      = c * d * (2 ^ (-FP.Core.b64.qmin).toNat * 2 ^ (-FP.Core.b64.qmin).toNat * 2 ^ (q + r - 0).toNat) := by rw [Nat.mul_assoc]
    _ = c * d * (2 ^ (q - FP.Core.b64.qmin).toNat * 2 ^ (r - FP.Core.b64.qmin).toNat * 2 ^ (0 - (q + r)).toNat) := by rw [← Nat.pow_add, ← Nat.pow_add, e1, Nat.pow_add, Nat.pow_add]
    _ = c * 2 ^ (q - FP.Core.b64.qmin).toNat * (d * 2 ^ (r - FP.Core.b64.qmin).toNat) * 2 ^ (0 - (q + r)).toNat := by
        rw [← Nat.mul_assoc, ← Nat.mul_assoc, Nat.mul_assoc c d, Nat.mul_comm d, ← Nat.mul_assoc c, Nat.mul_assoc _ d]
theorem own_mul_nn {x y : UInt64} (hx : Fin64 x) (hy : Fin64 y) : NoNaN64 (FP.dmul x y) := own_noNaN_of (own_prod hx hy)
theorem own_sgnz (x : UInt64) : FP.Core.signed (FP.Core.sgn (FP.Core.val64 x)) (own_z x).natAbs = own_z x := by rw [own_zn]; rfl
theorem own_signed2 (s t : Bool) (a b : Nat) : FP.Core.signed (s != t) (a * b) = FP.Core.signed s a * FP.Core.signed t b := by
  cases s <;> cases t <;> simp [FP.Core.signed, Int.natCast_mul, Int.neg_mul, Int.mul_neg]
theorem own_q1 : 0 < FP.Core.one64 * FP.Core.one64 := Nat.mul_pos FP.Core.one64_pos FP.Core.one64_pos
theorem own_prod_le {x y V : UInt64} (hx : Fin64 x) (hy : Fin64 y) (hV : NoNaN64 V) (h : (own_z x).natAbs * (own_z y).natAbs ≤ (own_z V).natAbs * FP.Core.one64) : (own_z (FP.dmul x y)).natAbs ≤ (own_z V).natAbs := by
  rw [own_zn (FP.dmul x y), own_prod hx hy]
  refine own_rr_le own_q1 hV ?_
  rw [← Nat.mul_assoc]; exact Nat.mul_le_mul_right _ h
theorem own_prod_ge {x y V : UInt64} (hx : Fin64 x) (hy : Fin64 y) (h : (own_z V).natAbs * FP.Core.one64 ≤ (own_z x).natAbs * (own_z y).natAbs) : (own_z V).natAbs ≤ (own_z (FP.dmul x y)).natAbs := by
  rw [own_zn (FP.dmul x y), own_prod hx hy]
  refine own_rr_ge own_q1 ?_
  rw [← Nat.mul_assoc]; exact Nat.mul_le_mul_right _ h
theorem own_mul_exact {x y : UInt64} (hx : Fin64 x) (hy : Fin64 y) (m : Int) (k : Nat) (hm : m.natAbs < 2 ^ 53) (hk : k ≤ 2045)
    (h : own_z x * own_z y = m * ((2 ^ k : Nat) : Int) * (FP.Core.one64 : Int)) : own_z (FP.dmul x y) = m * ((2 ^ k : Nat) : Int) ∧ Fin64 (FP.dmul x y) := by
  obtain ⟨V, fV, zV⟩ := own_repI m k hm hk
  have h3 : (own_z x).natAbs * (own_z y).natAbs = (own_z V).natAbs * FP.Core.one64 := by
    have := congrArg Int.natAbs h
    rw [Int.natAbs_mul, Int.natAbs_mul, ← zV] at this
    exact this
  have l1 := own_prod_le hx hy fV.noNaN (Nat.le_of_eq h3)
  have l2 := own_prod_ge hx hy (Nat.le_of_eq h3.symm)
  have l3 := Nat.le_antisymm l1 l2
  have hz' : own_z (FP.dmul x y) = own_z V := by
    rw [own_z_signed (own_prod hx hy)]
    rw [own_zn, own_prod hx hy] at l3
    rw [l3]
    have e1 : FP.Core.signed (FP.Core.sgn (FP.Core.val64 x) != FP.Core.sgn (FP.Core.val64 y)) (own_z V).natAbs * (FP.Core.one64 : Int) = own_z V * (FP.Core.one64 : Int) := by
      rw [← FP.Core.signed_mul, ← h3, own_signed2, own_sgnz, own_sgnz, h, zV]
    have := own_one
    exact Int.eq_of_mul_eq_mul_right (by omega) e1
  exact ⟨hz'.trans zV, own_fin_of_z (own_mul_nn hx hy) fV hz'⟩
/-- a product of two above nought that isn't below a double above nought -/
theorem own_mul_pos {x y : UInt64} (hx : Fin64 x) (hy : Fin64 y) (h0 : 0 < own_z x) (h1 : 0 < own_z y) : 0 ≤ own_z (FP.dmul x y) := by
  have s1 : FP.Core.sgn (FP.Core.val64 x) = false := by
    cases hs : FP.Core.sgn (FP.Core.val64 x) with
    | false => rfl
    | true => exfalso; have := own_sgnz x; rw [hs] at this; simp only [FP.Core.signed, if_true] at this; omega
  have s2 : FP.Core.sgn (FP.Core.val64 y) = false := by
    cases hs : FP.Core.sgn (FP.Core.val64 y) with
    | false => rfl
    | true => exfalso; have := own_sgnz y; rw [hs] at this; simp only [FP.Core.signed, if_true] at this; omega
  rw [own_z_signed (own_prod hx hy), s1, s2]
  exact Int.natCast_nonneg _
/-! arrays by the list of what they hold -/
def own_A (Z : State) (h : Heap) (a : Addr) (ty : FieldType) (vs : List Value) : Prop := ∃ c : Cell, Arr Z h a c ty ∧ c.slots.toList = vs
section OwnArr
variable {p : Program} {l : Launch} {e : Env} {R : Room} {s : State} {m : MethodId} {args : Array Value} {below : List Frame} {meth : Method} {c : Code} {T : State} {locs : List Loc} {cells slots : Nat} {Z : State} {h h' : Heap} {a b : Addr} {ty : FieldType} {vs : List Value} {sl : Nat} {v : Value} {ws : List Addr}
theorem own_A.lt (F : own_A Z h a ty vs) : a < h.size := by obtain ⟨c, A, -⟩ := F; exact A.lt
theorem own_A.ext (F : own_A Z h a ty vs) (E : Ext h h') : own_A Z h' a ty vs := by obtain ⟨c, A, r⟩ := F; exact ⟨c, A.ext E, r⟩
theorem own_A.other (F : own_A Z h b ty vs) (W : Wr h h' a sl v) (q : b ≠ a) : own_A Z h' b ty vs := by obtain ⟨c, A, r⟩ := F; exact ⟨c, A.other W q, r⟩
theorem own_A.keep (F : own_A Z h a ty vs) (K : Keep h h' ws) (q : a ∉ ws) : own_A Z h' a ty vs := by obtain ⟨c, A, r⟩ := F; exact ⟨c, ⟨K.2.1 a c A.1 q, A.2⟩, r⟩
theorem own_A.new {k : ClassId} {n : Int32} (A : Arr Z h a (newA k ty n) ty) : own_A Z h a ty (List.replicate n.toNatClampNeg (defaultValue ty)) := ⟨_, A, by simp [newA]⟩
theorem own_A.len (X : Stand p l e R s m args below meth c T locs cells slots) (hx : p.tables.exec = Jvm.exec) (hZ : Z.Warmed39 s.vm) (eT : T.heap = h) (F : own_A Z h a ty vs)
    {g : JFrame} (hg : g.method = m) {rest : List Value} (hs : g.stack = .ref a :: rest) (hd : decode c.code g.pc = .ok (.arraylength, 1)) (target : State)
    (hr : Steps p.tables e below (T.setTop { g with pc := g.pc + 1, stack := .int vs.length.toInt32 :: rest }) target) : Steps p.tables e below (T.setTop g) target := by
  obtain ⟨cl, A, rfl⟩ := F
  refine X.arraylength hx (cell := cl) (by rw [eT]; exact A.1) (State.isArrayOf_alike hZ.alike A.2.1) hg hs hd _ ?_
  rw [Array.length_toList] at hr; exact hr
theorem own_A.inb {cl : Cell} {j : Int32} (hj : ¬ j < 0) (hv : cl.slots.toList[j.toNatClampNeg]? = some v) : ¬ (j < 0 ∨ cl.slots.size ≤ j.toNatClampNeg) := by
  rintro (q | q)
  · exact hj q
  · rw [List.getElem?_eq_none (by rw [Array.length_toList]; exact q)] at hv; cases hv
theorem own_A.dld (X : Stand p l e R s m args below meth c T locs cells slots) (hx : p.tables.exec = Jvm.exec) (hZ : Z.Warmed39 s.vm) (eT : T.heap = h) (F : own_A Z h a .double vs) {j : Int32} (hj : ¬ j < 0) (hv : vs[j.toNatClampNeg]? = some v)
    {g : JFrame} (hg : g.method = m) {rest : List Value} (hs : g.stack = .int j :: .ref a :: rest) (hd : decode c.code g.pc = .ok (.daload, 1)) (target : State)
    (hr : Steps p.tables e below (T.setTop { g with pc := g.pc + 1, stack := v :: rest }) target) : Steps p.tables e below (T.setTop g) target := by
  obtain ⟨cl, A, rfl⟩ := F
  exact X.daload hx (by rw [eT]; exact A.1) (State.isArrayOf_alike hZ.alike A.2.1) A.2.2 (own_A.inb hj hv) (by rw [← Array.getElem?_toList]; exact hv) hg hs hd _ hr
theorem own_A.ild (X : Stand p l e R s m args below meth c T locs cells slots) (hx : p.tables.exec = Jvm.exec) (hZ : Z.Warmed39 s.vm) (eT : T.heap = h) (F : own_A Z h a .int vs) {j : Int32} (hj : ¬ j < 0) (hv : vs[j.toNatClampNeg]? = some v)
    {g : JFrame} (hg : g.method = m) {rest : List Value} (hs : g.stack = .int j :: .ref a :: rest) (hd : decode c.code g.pc = .ok (.iaload, 1)) (target : State)
    (hr : Steps p.tables e below (T.setTop { g with pc := g.pc + 1, stack := v :: rest }) target) : Steps p.tables e below (T.setTop g) target := by
  obtain ⟨cl, A, rfl⟩ := F
  exact X.iaload hx (by rw [eT]; exact A.1) (State.isArrayOf_alike hZ.alike A.2.1) A.2.2 (own_A.inb hj hv) (by rw [← Array.getElem?_toList]; exact hv) hg hs hd _ hr
theorem own_A.lld (X : Stand p l e R s m args below meth c T locs cells slots) (hx : p.tables.exec = Jvm.exec) (hZ : Z.Warmed39 s.vm) (eT : T.heap = h) (F : own_A Z h a .long vs) {j : Int32} (hj : ¬ j < 0) (hv : vs[j.toNatClampNeg]? = some v)
    {g : JFrame} (hg : g.method = m) {rest : List Value} (hs : g.stack = .int j :: .ref a :: rest) (hd : decode c.code g.pc = .ok (.laload, 1)) (target : State)
    (hr : Steps p.tables e below (T.setTop { g with pc := g.pc + 1, stack := v :: rest }) target) : Steps p.tables e below (T.setTop g) target := by
  obtain ⟨cl, A, rfl⟩ := F
  exact X.laload hx (by rw [eT]; exact A.1) (State.isArrayOf_alike hZ.alike A.2.1) A.2.2 (own_A.inb hj hv) (by rw [← Array.getElem?_toList]; exact hv) hg hs hd _ hr
theorem own_A.same {cl : Cell} (A : Arr Z h a cl ty) (W : Wr h h' a sl v) : own_A Z h' a ty (cl.slots.toList.set sl v) := ⟨_, A.same W, by simp [Cell.setSlot]⟩
theorem own_A.dst (X : Stand p l e R s m args below meth c T locs cells slots) (hx : p.tables.exec = Jvm.exec) (hZ : Z.Warmed39 s.vm) (eT : T.heap = h) (F : own_A Z h a .double vs) {j : Int32} {x : UInt64} (hj : ¬ j < 0) {o : Value} (hv : vs[j.toNatClampNeg]? = some o)
    {g : JFrame} (hg : g.method = m) {rest : List Value} (hs : g.stack = .double x :: .int j :: .ref a :: rest) (hd : decode c.code g.pc = .ok (.dastore, 1)) :
    ∃ T' h', Stand p l e R s m args below meth c T' (locs ++ [⟨a, j.toNatClampNeg⟩]) cells slots ∧ T'.heap = h' ∧ Wr h h' a j.toNatClampNeg (.double x) ∧ own_A Z h' a .double (vs.set j.toNatClampNeg (.double x)) ∧
      ∀ target, Steps p.tables e below (T'.setTop { g with pc := g.pc + 1, stack := rest }) target → Steps p.tables e below (T.setTop g) target := by
  obtain ⟨cl, A, rfl⟩ := F
  obtain ⟨T', h', X', e', W, st⟩ := stD X hx hZ eT A (own_A.inb hj hv) hg hs hd
  exact ⟨T', h', X', e', W, own_A.same A W, st⟩
theorem own_A.ist (X : Stand p l e R s m args below meth c T locs cells slots) (hx : p.tables.exec = Jvm.exec) (hZ : Z.Warmed39 s.vm) (eT : T.heap = h) (F : own_A Z h a .int vs) {j : Int32} {x : Int32} (hj : ¬ j < 0) {o : Value} (hv : vs[j.toNatClampNeg]? = some o)
    {g : JFrame} (hg : g.method = m) {rest : List Value} (hs : g.stack = .int x :: .int j :: .ref a :: rest) (hd : decode c.code g.pc = .ok (.iastore, 1)) :
    ∃ T' h', Stand p l e R s m args below meth c T' (locs ++ [⟨a, j.toNatClampNeg⟩]) cells slots ∧ T'.heap = h' ∧ Wr h h' a j.toNatClampNeg (.int x) ∧ own_A Z h' a .int (vs.set j.toNatClampNeg (.int x)) ∧
      ∀ target, Steps p.tables e below (T'.setTop { g with pc := g.pc + 1, stack := rest }) target → Steps p.tables e below (T.setTop g) target := by
  obtain ⟨cl, A, rfl⟩ := F
  obtain ⟨T', h', X', e', W, st⟩ := stI X hx hZ eT A (own_A.inb hj hv) hg hs hd
  exact ⟨T', h', X', e', W, own_A.same A W, st⟩
theorem own_A.lst (X : Stand p l e R s m args below meth c T locs cells slots) (hx : p.tables.exec = Jvm.exec) (hZ : Z.Warmed39 s.vm) (eT : T.heap = h) (F : own_A Z h a .long vs) {j : Int32} {x : Int64} (hj : ¬ j < 0) {o : Value} (hv : vs[j.toNatClampNeg]? = some o)
    {g : JFrame} (hg : g.method = m) {rest : List Value} (hs : g.stack = .long x :: .int j :: .ref a :: rest) (hd : decode c.code g.pc = .ok (.lastore, 1)) :
    ∃ T' h', Stand p l e R s m args below meth c T' (locs ++ [⟨a, j.toNatClampNeg⟩]) cells slots ∧ T'.heap = h' ∧ Wr h h' a j.toNatClampNeg (.long x) ∧ own_A Z h' a .long (vs.set j.toNatClampNeg (.long x)) ∧
      ∀ target, Steps p.tables e below (T'.setTop { g with pc := g.pc + 1, stack := rest }) target → Steps p.tables e below (T.setTop g) target := by
  obtain ⟨cl, A, rfl⟩ := F
  obtain ⟨T', h', X', e', W, st⟩ := stJ X hx hZ eT A (own_A.inb hj hv) hg hs hd
  exact ⟨T', h', X', e', W, own_A.same A W, st⟩
end OwnArr
section OwnCopy
variable {p : Program} {l : Launch} {e : Env} {R : Room} {s : State} {m : MethodId} {args : Array Value} {below : List Frame} {meth : Method} {c : Code} {T : State} {locs : List Loc} {cells slots : Nat} {Z : State} {h h' : Heap} {a b : Addr} {ty : FieldType} {vs vd : List Value}
theorem own_A.arv (F : own_A Z h a ty vs) (n : Int32) (hn : n.toNatClampNeg = vs.length) (h0 : ¬ n < 0) (d : Value) (hf : ∀ v ∈ vs, fits ty v = true) : ∃ k, Arv Z h a k ty n vs d := by
  obtain ⟨cl, A, rfl⟩ := F
  have hs : cl.slots.size = n.toNatClampNeg := by rw [hn, Array.length_toList]
  refine ⟨cl.cls, cl, A, rfl, hs, h0, fun i hi => ?_, fun i hi => ?_⟩
  · rw [List.getD_eq_getElem?_getD, Array.getElem?_toList, Array.getElem?_eq_getElem hi]; rfl
  · rw [List.getD_eq_getElem?_getD, Array.getElem?_toList, Array.getElem?_eq_getElem hi]
    exact hf _ (Array.mem_toList_iff.mpr (Array.getElem_mem hi))
theorem own_A.of_arv {k : ClassId} {n : Int32} {d : Value} (F : Arv Z h a k ty n vs d) (hn : n.toNatClampNeg = vs.length) : own_A Z h a ty vs := by
  obtain ⟨cl, A, -, hs, -, H, -⟩ := F
  refine ⟨cl, A, ?_⟩
  apply List.ext_getElem?
  intro i
  by_cases hi : i < cl.slots.size
  · rw [Array.getElem?_toList, H i hi, List.getD_eq_getElem?_getD, List.getElem?_eq_getElem (by omega)]; rfl
  · rw [Array.getElem?_toList, Array.getElem?_eq_none (by omega), List.getElem?_eq_none (by omega)]
theorem own_A.copy (X : Stand p l e R s m args below meth c T locs cells slots) (hx : p.tables.exec = Jvm.exec) (hZ : Z.Warmed39 s.vm) {a0 : Array Value} {own : String} {index : Nat} (hown : s.vm.findClass own = some m.cls)
    (w1 : (Jvm.Cond.methodLink own index Jvm.Stand.acN).before a0 Z = true) (w2 : (Jvm.Cond.native Jvm.Stand.acN).before a0 Z = true) (w3 : (Jvm.Cond.static Jvm.Stand.acN).before a0 Z = true) (w4 : (Jvm.Cond.initialized "java/lang/System").before a0 Z = true) (eT : T.heap = h)
    (A : own_A Z h a ty vs) (B : own_A Z h b ty vd) (hty : refKind ty = false) {na nb nn : Int32} (ha : na.toNatClampNeg = vs.length) (hb : nb.toNatClampNeg = vd.length) (ga : ¬ na < 0) (gb : ¬ nb < 0) (gn : ¬ nn < 0) (la : nn.toNatClampNeg ≤ vs.length) (lb : nn.toNatClampNeg ≤ vd.length)
    (fa : ∀ v ∈ vs, fits ty v = true) (fb : ∀ v ∈ vd, fits ty v = true) {n0 : Nat} (N : Fr n0 locs) (ge : n0 ≤ b)
    {g : JFrame} (hg : g.method = m) (hsize : g.locals.size = c.maxLocals) {rest : List Value} (hs : g.stack = .int nn :: .int 0 :: .ref b :: .int 0 :: .ref a :: rest) (hd : decode c.code g.pc = .ok (.invokestatic index, 3))
    (hf : 1 ≤ R.frames) {W : Nat} (hW : 2 * g.monitorRoom + (rest.map fun v => v.category).sum ≤ W) (hlo : W + (nativeFrameWords "java/lang/System" "arraycopy" 5 + 11) ≤ R.locals) :
    ∃ T' h' L, Stand p l e R s m args below meth c T' L cells slots ∧ T'.heap = h' ∧ Fr n0 L ∧ Keep h h' [b] ∧ own_A Z h' b ty (vs.take nn.toNatClampNeg ++ vd.drop nn.toNatClampNeg) ∧
      ∀ target, Steps p.tables e below (T'.setTop { g with pc := g.pc + 3, stack := rest }) target → Steps p.tables e below (T.setTop g) target := by
  obtain ⟨ka, A'⟩ := A.arv na ha ga (.int 0) fa
  obtain ⟨kb, B'⟩ := B.arv nb hb gb (.int 0) fb
  obtain ⟨T', h', L, X', e', N', K, Q, st⟩ := cpA X hx hZ hown w1 w2 w3 w4 eT (sp := 0) (dp := 0) (nn := nn) (us := vs.take nn.toNatClampNeg) A' B' (Or.inl ⟨rfl, hty⟩) (by decide) (by decide) gn (by show 0 + _ ≤ _; omega) (by show 0 + _ ≤ _; omega) (by
      apply List.ext_getElem?
      intro i
      show (vs.take nn.toNatClampNeg)[i]? = ((List.range nn.toNatClampNeg).map fun i => vs.getD (0 + i) (.int 0))[i]?
      by_cases hi : i < nn.toNatClampNeg
      · rw [List.getElem?_take_of_lt hi, List.getElem?_map, List.getElem?_range hi]
        show _ = some (vs.getD (0 + i) (.int 0))
        rw [Nat.zero_add, List.getD_eq_getElem?_getD, List.getElem?_eq_getElem (by omega)]; rfl
      · rw [List.getElem?_eq_none (by rw [List.length_take]; omega), List.getElem?_eq_none (by rw [List.length_map, List.length_range]; omega)]) (by show 0 + _ ≤ _; omega) N ge hg hsize hs hd hf hW hlo
  refine ⟨T', h', L, X', e', N', K, ?_, st⟩
  refine own_A.of_arv (by simpa using Q) ?_
  rw [List.length_append, List.length_take, List.length_drop, hb]; omega
end OwnCopy
section OwnChr
variable {p : Program} {l : Launch} {e : Env} {R : Room} {s : State} {m : MethodId} {args : Array Value} {below : List Frame} {meth : Method} {c : Code} {T : State} {locs : List Loc} {cells slots : Nat} {Z : State} {h h' : Heap} {a b : Addr} {ty : FieldType} {vs : List Value} {sl : Nat} {v : Value} {ws : List Addr}
theorem own_A.cst (X : Stand p l e R s m args below meth c T locs cells slots) (hx : p.tables.exec = Jvm.exec) (hZ : Z.Warmed39 s.vm) (eT : T.heap = h) (F : own_A Z h a .char vs) {j : Int32} {x : Int32} (hj : ¬ j < 0) {o : Value} (hv : vs[j.toNatClampNeg]? = some o)
    {g : JFrame} (hg : g.method = m) {rest : List Value} (hs : g.stack = .int x :: .int j :: .ref a :: rest) (hd : decode c.code g.pc = .ok (.castore, 1)) :
    ∃ T' h', Stand p l e R s m args below meth c T' (locs ++ [⟨a, j.toNatClampNeg⟩]) cells slots ∧ T'.heap = h' ∧ Wr h h' a j.toNatClampNeg (.int (nar .char x)) ∧ own_A Z h' a .char (vs.set j.toNatClampNeg (.int (nar .char x))) ∧
      ∀ target, Steps p.tables e below (T'.setTop { g with pc := g.pc + 1, stack := rest }) target → Steps p.tables e below (T.setTop g) target := by
  obtain ⟨cl, A, rfl⟩ := F
  obtain ⟨T', h', X', e', W, st⟩ := stC X hx hZ eT A (own_A.inb hj hv) hg hs hd
  exact ⟨T', h', X', e', W, own_A.same A W, st⟩
theorem own_A.bst (X : Stand p l e R s m args below meth c T locs cells slots) (hx : p.tables.exec = Jvm.exec) (hZ : Z.Warmed39 s.vm) (eT : T.heap = h) (F : own_A Z h a .byte vs) {j : Int32} {x : Int32} (hj : ¬ j < 0) {o : Value} (hv : vs[j.toNatClampNeg]? = some o)
    {g : JFrame} (hg : g.method = m) {rest : List Value} (hs : g.stack = .int x :: .int j :: .ref a :: rest) (hd : decode c.code g.pc = .ok (.bastore, 1)) :
    ∃ T' h', Stand p l e R s m args below meth c T' (locs ++ [⟨a, j.toNatClampNeg⟩]) cells slots ∧ T'.heap = h' ∧ Wr h h' a j.toNatClampNeg (.int (nar .byte x)) ∧ own_A Z h' a .byte (vs.set j.toNatClampNeg (.int (nar .byte x))) ∧
      ∀ target, Steps p.tables e below (T'.setTop { g with pc := g.pc + 1, stack := rest }) target → Steps p.tables e below (T.setTop g) target := by
  obtain ⟨cl, A, rfl⟩ := F
  obtain ⟨T', h', X', e', W, st⟩ := stB X hx hZ eT A (own_A.inb hj hv) hg hs hd
  exact ⟨T', h', X', e', W, own_A.same A W, st⟩
end OwnChr
/-! how far the heap had come when the intern table last turned -/
abbrev own_Le (k : Nat) (h : Heap) : Prop := k ≤ h.size
theorem own_Le.ext {k : Nat} {h h' : Heap} (F : own_Le k h) (E : Ext h h') : own_Le k h' := Nat.le_trans F E.1
theorem own_Le.wr {k : Nat} {h h' : Heap} {a : Addr} {sl : Nat} {v : Value} (F : own_Le k h) (W : Wr h h' a sl v) : own_Le k h' := Nat.le_trans F (Keep.of_wr W).1
theorem own_Le.keep {k : Nat} {h h' : Heap} {ws : List Addr} (F : own_Le k h) (K : Keep h h' ws) : own_Le k h' := Nat.le_trans F K.1
theorem own_and255 (x : Int32) : ¬ x &&& 255 < 0 ∧ ¬ (255 : Int32) < x &&& 255 := by
  have e := Jvm.Kit.i32_mask x 255 (k := 8) (by decide) (by decide)
  constructor
  · rw [Int32.lt_iff_toInt_lt, e]; show ¬ _ < (0 : Int); omega
  · rw [Int32.lt_iff_toInt_lt, e]; show ¬ (255 : Int) < _; omega
theorem own_lat (x : Int32) : ¬ nar .char ((x &&& 255).toUInt32.toUInt16.toUInt32.toInt32) < 0 ∧ ¬ (255 : Int32) < nar .char ((x &&& 255).toUInt32.toUInt16.toUInt32.toInt32) := by
  rw [show nar .char ((x &&& (255 : Int32)).toUInt32.toUInt16.toUInt32.toInt32) = x &&& 255 from by simp only [nar, i2c_mask]]; exact own_and255 x

theorem own_n0 : NoNaN64 FP.dconst0 := own_nn own_d0
theorem own_nM : NoNaN64 (9218868437227405311 : UInt64) := by unfold NoNaN64; decide
theorem own_z0 : own_z FP.dconst0 = 0 := by rw [own_zi own_d0, Int.zero_mul]
theorem own_zM : ((2 ^ 64 : Nat) : Int) * (FP.Core.one64 : Int) ≤ own_z (9218868437227405311 : UInt64) := by unfold own_z FP.Core.one64; decide +kernel
theorem own_zM0 : 0 ≤ own_z (9218868437227405311 : UInt64) := by unfold own_z; decide +kernel
theorem own_lM {i : Int} (h : i ≤ ((2 ^ 64 : Nat) : Int)) : i * (FP.Core.one64 : Int) ≤ own_z (9218868437227405311 : UInt64) :=
  Int.le_trans (Int.mul_le_mul_of_nonneg_right h (Int.le_of_lt own_one)) own_zM
def own_V (v : UInt64) : Prop := NoNaN64 v ∧ 0 < own_z v ∧ own_z v ≤ own_z (9218868437227405311 : UInt64)
theorem own_V0 {v : UInt64} (h : own_V v) : own_z FP.dconst0 < own_z v := by rw [own_z0]; exact h.2.1
theorem own_i31 (p : Int32) : 1 ≤ ((p &&& (2147483647 : Int32)).toInt64 + (1 : Int64)).toInt ∧ ((p &&& (2147483647 : Int32)).toInt64 + (1 : Int64)).toInt ≤ 2147483648 := by
  have h := Jvm.Kit.i32_mask p 2147483647 (k := 31) (by decide) (by decide)
  have h2 : ((p &&& (2147483647 : Int32)).toInt64 + (1 : Int64)).toInt = (p &&& (2147483647 : Int32)).toInt + 1 := by
    rw [Jvm.Kit.i64_add (by rw [Jvm.Kit.i64_of_i32, h]; show _ ≤ _ + (1 : Int); omega) (by rw [Jvm.Kit.i64_of_i32, h]; show _ + (1 : Int) < _; omega), Jvm.Kit.i64_of_i32]; rfl
  rw [h2, h]; omega
theorem own_nu {p : Int32} {nu : UInt64} (h : FP.l2d ((p &&& (2147483647 : Int32)).toInt64 + (1 : Int64)) = nu) : ∃ i : Int, 1 ≤ i ∧ i ≤ 2147483648 ∧ own_z nu = i * (FP.Core.one64 : Int) ∧ Fin64 nu := by
  have b := own_i31 p
  have e : (2 : Nat) ^ 53 = 9007199254740992 := by decide
  have d := own_dl ((p &&& (2147483647 : Int32)).toInt64 + (1 : Int64)) rfl (by omega)
  rw [h] at d
  exact ⟨_, b.1, b.2, own_zi d, own_fini d⟩
theorem own_v1 {p q : Int32} {nu de : UInt64} (hnu : FP.l2d ((p &&& (2147483647 : Int32)).toInt64 + (1 : Int64)) = nu) (hde : FP.l2d ((q &&& (2147483647 : Int32)).toInt64 + (1 : Int64)) = de) : own_V (FP.ddiv nu de) := by
  obtain ⟨i, i1, i2, zi, fi⟩ := own_nu hnu
  obtain ⟨j, j1, j2, zj, fj⟩ := own_nu hde
  have o := own_one
  have zp : 0 < own_z de := by rw [zj]; exact Int.mul_pos (by omega) o
  have zq : 0 < own_z nu := by rw [zi]; exact Int.mul_pos (by omega) o
  have ge := own_div_ge0 fi fj (by omega) (by omega) (by omega)
  have e2 : ((2 ^ 64 : Nat) : Int) = 18446744073709551616 := by decide
  refine ⟨own_div_nn fi fj (by omega), ?_, own_div_le fi fj (by omega) own_nM (by omega) (by omega) own_zM0 ?_⟩
  · obtain ⟨V, fV, zV⟩ := own_rep 1 1043 (by decide) (by decide)
    have h := own_rr_ge (s := false) (A := (own_z nu).natAbs) (B := (own_z de).natAbs) (V := V) (by omega) (by
      have e1 : ((own_z nu).natAbs : Int) = i * (FP.Core.one64 : Int) := by rw [← zi]; omega
      have e3 : ((own_z de).natAbs : Int) = j * (FP.Core.one64 : Int) := by rw [← zj]; omega
      have e4 : ((own_z V).natAbs : Int) = ((2 ^ 1043 : Nat) : Int) := by rw [zV, Nat.one_mul]; rfl
      have e5 : (FP.Core.one64 : Int) = ((2 ^ 1043 : Nat) : Int) * 2147483648 := by rw [FP.Core.one64]; decide +kernel
      have : (((own_z V).natAbs * (own_z de).natAbs : Nat) : Int) ≤ (((own_z nu).natAbs * FP.Core.one64 : Nat) : Int) := by
        rw [Int.natCast_mul, Int.natCast_mul, e1, e3, e4, ← Int.mul_assoc]
        refine Int.mul_le_mul_of_nonneg_right ?_ (Int.le_of_lt o)
        refine Int.le_trans (Int.mul_le_mul_of_nonneg_left j2 (Int.natCast_nonneg _)) ?_
        rw [← e5]
        have := Int.mul_le_mul_of_nonneg_right i1 (Int.le_of_lt o)
        rw [Int.one_mul] at this; exact this
      exact Int.ofNat_le.mp this)
    have hn := own_div_n fi fj (by omega)
    rw [← hn] at h
    have : 0 < (own_z V).natAbs := by rw [zV, Nat.one_mul]; exact Nat.two_pow_pos _
    omega
  · rw [zj, ← Int.mul_assoc, zi]
    refine Int.mul_le_mul_of_nonneg_right ?_ (Int.le_of_lt o)
    refine Int.le_trans (own_lM (i := i) (by omega)) ?_
    have := Int.mul_le_mul_of_nonneg_left j1 own_zM0
    rw [Int.mul_one] at this; exact this
theorem own_v2 {p q : Int32} {nu de : UInt64} (hnu : FP.l2d ((p &&& (2147483647 : Int32)).toInt64 + (1 : Int64)) = nu) (hde : FP.l2d ((q &&& (2147483647 : Int32)).toInt64 + (1 : Int64)) = de) : own_V (FP.dmul nu de) := by
  obtain ⟨i, i1, i2, zi, fi⟩ := own_nu hnu
  obtain ⟨j, j1, j2, zj, fj⟩ := own_nu hde
  have o := own_one
  have zp : 0 < own_z de := by rw [zj]; exact Int.mul_pos (by omega) o
  have zq : 0 < own_z nu := by rw [zi]; exact Int.mul_pos (by omega) o
  have ge := own_mul_pos fi fj zq zp
  have ij : i * j ≤ 4611686018427387904 := by have := Int.mul_le_mul i2 j2 (by omega) (by omega); omega
  have ij1 : 1 ≤ i * j := by have := Int.mul_le_mul i1 j1 (by omega) (by omega); omega
  have e1 : (((own_z nu).natAbs * (own_z de).natAbs : Nat) : Int) = i * j * (FP.Core.one64 : Int) * (FP.Core.one64 : Int) := by
    rw [Int.natCast_mul, Int.natAbs_of_nonneg (by omega), Int.natAbs_of_nonneg (by omega), zi, zj]
    simp only [Int.mul_assoc, Int.mul_comm, Int.mul_left_comm]
  have e2 : ((2 ^ 64 : Nat) : Int) = 18446744073709551616 := by decide
  refine ⟨own_mul_nn fi fj, ?_, ?_⟩
  · have h := own_prod_ge (V := FP.dconst1) fi fj (by
      refine Int.ofNat_le.mp ?_
      rw [e1, Int.natCast_mul, own_zi own_d1, Int.one_mul, Int.natAbs_of_nonneg (Int.le_of_lt o)]
      refine Int.mul_le_mul_of_nonneg_right ?_ (Int.le_of_lt o)
      have := Int.mul_le_mul_of_nonneg_right ij1 (Int.le_of_lt o)
      rw [Int.one_mul] at this; exact this)
    rw [own_zi own_d1, Int.one_mul] at h
    omega
  · have h := own_prod_le (V := (9218868437227405311 : UInt64)) fi fj own_nM (by
      refine Int.ofNat_le.mp ?_
      rw [e1, Int.natCast_mul, Int.natAbs_of_nonneg own_zM0]
      exact Int.mul_le_mul_of_nonneg_right (own_lM (by omega)) (Int.le_of_lt o))
    have := own_zM0
    omega
theorem own_v3 : own_V (9218868437227405311 : UInt64) := ⟨own_nM, by unfold own_z; decide +kernel, Int.le_refl _⟩
theorem own_v4 : own_V (1 : UInt64) := ⟨by unfold NoNaN64; decide, by unfold own_z; decide +kernel, by unfold own_z; decide +kernel⟩

abbrev fd0 (Z : State) (h : Heap) (a : Addr) (v : Value) : Prop := Fld Z h a "rootzone/Bound" "least" "D" v
abbrev fd1 (Z : State) (h : Heap) (a : Addr) (v : Value) : Prop := Fld Z h a "rootzone/Bound" "leastIncluded" "Z" v
abbrev fd2 (Z : State) (h : Heap) (a : Addr) (v : Value) : Prop := Fld Z h a "rootzone/Bound" "below" "Ljava/lang/String;" v
abbrev fd3 (Z : State) (h : Heap) (a : Addr) (v : Value) : Prop := Fld Z h a "rootzone/Bound" "most" "D" v
abbrev fd4 (Z : State) (h : Heap) (a : Addr) (v : Value) : Prop := Fld Z h a "rootzone/Bound" "mostIncluded" "Z" v
abbrev fd5 (Z : State) (h : Heap) (a : Addr) (v : Value) : Prop := Fld Z h a "rootzone/Bound" "above" "Ljava/lang/String;" v
def QrmBi (Z : State) (a : Addr) (b1 : Addr) (b2 : Addr) (h0 : Heap) (n0 : Nat) (vQ : Option Value) (hQ : Heap) (LQ : List Loc) : Prop := vQ = none ∧ Fr n0 LQ ∧ Keep h0 hQ [a] ∧ (fd0 Z hQ a (.double FP.dconst0)) ∧ (fd1 Z hQ a (.int (0 : Int32))) ∧ (fd2 Z hQ a (.ref b1)) ∧ (fd3 Z hQ a (.double (9218868437227405311 : UInt64))) ∧ (fd4 Z hQ a (.int (1 : Int32))) ∧ (fd5 Z hQ a (.ref b2))
theorem ef_rmBi (m : MethodId) (a : Addr) (b1 : Addr) (b2 : Addr) : entryFrame m #[(.ref a), (.double FP.dconst0), (.int (0 : Int32)), (.ref b1), (.double (9218868437227405311 : UInt64)), (.int (1 : Int32)), (.ref b2)] 9 = mkF m 0 #[vr a, vd FP.dconst0, ss, vi (0 : Int32), vr b1, vd (9218868437227405311 : UInt64), ss, vi (1 : Int32), vr b2] [] := by first | (simp [entryFrame, mkF, argsToLocals, Value.category]; done) | rfl
abbrev xa6 (Z : State) (h : Heap) (a : Addr) : Prop := Exa Z h a "rootzone/Bound"
abbrev mn7 : MethodName := ⟨"rootzone/Bound", "<init>", "(DZLjava/lang/String;DZLjava/lang/String;)V"⟩
theorem pn_rootzone_Bound : plainName "rootzone/Bound" = true := by first | (simp [plainName, overriddenIn]; done) | decide +kernel
theorem d_prog_1_method_1_code_0 : decode prog_1_method_1_code 0 = .ok (.aload_n 0, 1) := by decide +kernel
theorem d_prog_1_method_1_code_1 : decode prog_1_method_1_code 1 = .ok (.invokespecial 1, 3) := by decide +kernel
def tw45 {Z : State} {a0 : Array Value} (hw : ∀ d ∈ tables_1, d.before a0 Z = true) := hw _ (List.mem_of_getElem? (i := 45) rfl)
def tw13 {Z : State} {a0 : Array Value} (hw : ∀ d ∈ tables_1, d.before a0 Z = true) := hw _ (List.mem_of_getElem? (i := 13) rfl)
def tw14 {Z : State} {a0 : Array Value} (hw : ∀ d ∈ tables_1, d.before a0 Z = true) := hw _ (List.mem_of_getElem? (i := 14) rfl)
theorem d_prog_1_method_1_code_4 : decode prog_1_method_1_code 4 = .ok (.aload_n 0, 1) := by decide +kernel
theorem d_prog_1_method_1_code_5 : decode prog_1_method_1_code 5 = .ok (.dload_n 1, 1) := by decide +kernel
theorem d_prog_1_method_1_code_6 : decode prog_1_method_1_code 6 = .ok (.putfield 7, 3) := by decide +kernel
def tw46 {Z : State} {a0 : Array Value} (hw : ∀ d ∈ tables_1, d.before a0 Z = true) := hw _ (List.mem_of_getElem? (i := 46) rfl)
def tw36 {Z : State} {a0 : Array Value} (hw : ∀ d ∈ tables_1, d.before a0 Z = true) := hw _ (List.mem_of_getElem? (i := 36) rfl)
def tw47 {Z : State} {a0 : Array Value} (hw : ∀ d ∈ tables_1, d.before a0 Z = true) := hw _ (List.mem_of_getElem? (i := 47) rfl)
def tw49 {Z : State} {a0 : Array Value} (hw : ∀ d ∈ tables_1, d.before a0 Z = true) := hw _ (List.mem_of_getElem? (i := 49) rfl)
def tw51 {Z : State} {a0 : Array Value} (hw : ∀ d ∈ tables_1, d.before a0 Z = true) := hw _ (List.mem_of_getElem? (i := 51) rfl)
def tw53 {Z : State} {a0 : Array Value} (hw : ∀ d ∈ tables_1, d.before a0 Z = true) := hw _ (List.mem_of_getElem? (i := 53) rfl)
def tw55 {Z : State} {a0 : Array Value} (hw : ∀ d ∈ tables_1, d.before a0 Z = true) := hw _ (List.mem_of_getElem? (i := 55) rfl)
def tw57 {Z : State} {a0 : Array Value} (hw : ∀ d ∈ tables_1, d.before a0 Z = true) := hw _ (List.mem_of_getElem? (i := 57) rfl)
theorem d_prog_1_method_1_code_9 : decode prog_1_method_1_code 9 = .ok (.aload_n 0, 1) := by decide +kernel
theorem d_prog_1_method_1_code_10 : decode prog_1_method_1_code 10 = .ok (.iload_n 3, 1) := by decide +kernel
theorem d_prog_1_method_1_code_11 : decode prog_1_method_1_code 11 = .ok (.putfield 13, 3) := by decide +kernel
def tw48 {Z : State} {a0 : Array Value} (hw : ∀ d ∈ tables_1, d.before a0 Z = true) := hw _ (List.mem_of_getElem? (i := 48) rfl)
theorem d_prog_1_method_1_code_14 : decode prog_1_method_1_code 14 = .ok (.aload_n 0, 1) := by decide +kernel
theorem d_prog_1_method_1_code_15 : decode prog_1_method_1_code 15 = .ok (.aload 4, 2) := by decide +kernel
theorem d_prog_1_method_1_code_17 : decode prog_1_method_1_code 17 = .ok (.putfield 17, 3) := by decide +kernel
def tw50 {Z : State} {a0 : Array Value} (hw : ∀ d ∈ tables_1, d.before a0 Z = true) := hw _ (List.mem_of_getElem? (i := 50) rfl)
theorem d_prog_1_method_1_code_20 : decode prog_1_method_1_code 20 = .ok (.aload_n 0, 1) := by decide +kernel
theorem d_prog_1_method_1_code_21 : decode prog_1_method_1_code 21 = .ok (.dload 5, 2) := by decide +kernel
theorem d_prog_1_method_1_code_23 : decode prog_1_method_1_code 23 = .ok (.putfield 21, 3) := by decide +kernel
def tw52 {Z : State} {a0 : Array Value} (hw : ∀ d ∈ tables_1, d.before a0 Z = true) := hw _ (List.mem_of_getElem? (i := 52) rfl)
theorem d_prog_1_method_1_code_26 : decode prog_1_method_1_code 26 = .ok (.aload_n 0, 1) := by decide +kernel
theorem d_prog_1_method_1_code_27 : decode prog_1_method_1_code 27 = .ok (.iload 7, 2) := by decide +kernel
theorem d_prog_1_method_1_code_29 : decode prog_1_method_1_code 29 = .ok (.putfield 24, 3) := by decide +kernel
def tw54 {Z : State} {a0 : Array Value} (hw : ∀ d ∈ tables_1, d.before a0 Z = true) := hw _ (List.mem_of_getElem? (i := 54) rfl)
theorem d_prog_1_method_1_code_32 : decode prog_1_method_1_code 32 = .ok (.aload_n 0, 1) := by decide +kernel
theorem d_prog_1_method_1_code_33 : decode prog_1_method_1_code 33 = .ok (.aload 8, 2) := by decide +kernel
theorem d_prog_1_method_1_code_35 : decode prog_1_method_1_code 35 = .ok (.putfield 27, 3) := by decide +kernel
def tw56 {Z : State} {a0 : Array Value} (hw : ∀ d ∈ tables_1, d.before a0 Z = true) := hw _ (List.mem_of_getElem? (i := 56) rfl)
theorem d_prog_1_method_1_code_38 : decode prog_1_method_1_code 38 = .ok (.return_, 1) := by decide +kernel
set_option maxRecDepth 65536 in
set_option maxHeartbeats 40000000 in
theorem rmBi (l : Launch) (Z : State) (a0 : Array Value) (hw : ∀ d ∈ tables_1, d.before a0 Z = true) (ws : List Jvm.Cond) (a : Addr) (b1 : Addr) (b2 : Addr) (h0 : Heap) (n0 : Nat) (Z0 : n0 ≤ h0.size) (E1 : xa6 Z h0 a) (F0 : fd0 Z h0 a (.double (0 : UInt64))) (F1 : fd1 Z h0 a (.int (0 : Int32))) (F2 : fd2 Z h0 a .null) (F3 : fd3 Z h0 a (.double (0 : UInt64))) (F4 : fd4 Z h0 a (.int (0 : Int32))) (F5 : fd5 Z h0 a .null) (ge_a : n0 ≤ a) :
    MetFree l mn7 (head1 (Jvm.Cond.code mn7 prog_1_method_1_code 9 none :: ws) ({ frames := 1, cells := 0, slots := 0, locals := 12 } : Room)) (fun aA U => aA = #[(.ref a), (.double FP.dconst0), (.int (0 : Int32)), (.ref b1), (.double (9218868437227405311 : UInt64)), (.int (1 : Int32)), (.ref b2)] ∧ Z.Warmed39 U.vm ∧ U.heap = h0) (fun _ _ _ _ _ => True) (fun _ U o U' => ∃ vR LR, o = .returned vR ∧ QrmBi Z a b1 b2 h0 n0 vR U'.heap LR ∧ FrameEnd U o U' LR ({ frames := 1, cells := 0, slots := 0, locals := 12 } : Room).cells ({ frames := 1, cells := 0, slots := 0, locals := 12 } : Room).slots) := by
  refine MetFree.of_bodySF (plainFor_of_name pn_rootzone_Bound) hisR ?_
  intro p e s m args below meth c s₁ Bd hml0 hPre hKk
  obtain ⟨rfl, hZ, hh⟩ := hPre
  have hx := Bd.exec
  have hby := Bd.bytes
  skip
  have hml : c.maxLocals = 9 := hml0
  have hown : s.vm.findClass "rootzone/Bound" = some m.cls := findClass_of_methodNamed Bd.named
  have hnm := (name_of_methodNamed Bd.named Bd.method).1
  have X0 : Stand p l e ({ frames := 1, cells := 0, slots := 0, locals := 12 } : Room) s m #[(.ref a), (.double FP.dconst0), (.int (0 : Int32)), (.ref b1), (.double (9218868437227405311 : UInt64)), (.int (1 : Int32)), (.ref b2)] below meth c s₁ [] 0 0 := Stand.of_body Bd
  have e0 : s₁.heap = h0 := by rw [← hh, Bd.state]; rfl
  have N0 := Fr.nil n0
  obtain ⟨E0, hE0⟩ : ∃ zE : State, zE = s₁.setTop (entryFrame m #[(.ref a), (.double FP.dconst0), (.int (0 : Int32)), (.ref b1), (.double (9218868437227405311 : UInt64)), (.int (1 : Int32)), (.ref b2)] 9) := ⟨_, rfl⟩
  have k0 : own_G p e below E0 s₁ (mkF m 0 #[vr a, vd FP.dconst0, ss, vi (0 : Int32), vr b1, vd (9218868437227405311 : UInt64), ss, vi (1 : Int32), vr b2] []) := fun tz kz => hE0 ▸ castTop (ef_rmBi m a b1 b2) kz
  have K0 : Keep h0 h0 [a] := Keep.refl _ _
  have k1 : own_G p e below E0 s₁ (mkF m 1 #[vr a, vd FP.dconst0, ss, vi (0 : Int32), vr b1, vd (9218868437227405311 : UInt64), ss, vi (1 : Int32), vr b2] [(.ref a)]) := by
    intro tQ kk
    refine k0 tQ ?_
    refine XS.aloadN X0.here hx rfl (hb hby d_prog_1_method_1_code_0) rfl rfl ?_
    exact kk
  clear k0
  obtain ⟨T2, X3, e4, st5⟩ := initO X0 hx hZ hown (tw45 hw) (tw13 hw) (tw14 hw) e0 (g := (mkF m 1 #[vr a, vd FP.dconst0, ss, vi (0 : Int32), vr b1, vd (9218868437227405311 : UInt64), ss, vi (1 : Int32), vr b2] [(.ref a)])) rfl (by rw [hml]; rfl) rfl (hb hby d_prog_1_method_1_code_1) (by decide) (W := 0) (by show 2 * 0 + _ ≤ _; exact Nat.le_of_eq rfl) (by decide)
  have k6 : own_G p e below E0 T2 (mkF m 4 #[vr a, vd FP.dconst0, ss, vi (0 : Int32), vr b1, vd (9218868437227405311 : UInt64), ss, vi (1 : Int32), vr b2] []) := fun tQ kk => k1 tQ (st5 _ kk)
  clear k1 st5
  have k7 : own_G p e below E0 T2 (mkF m 6 #[vr a, vd FP.dconst0, ss, vi (0 : Int32), vr b1, vd (9218868437227405311 : UInt64), ss, vi (1 : Int32), vr b2] [(.double FP.dconst0), (.ref a)]) := by
    intro tQ kk
    refine k6 tQ ?_
    refine XS.aloadN X3.here hx rfl (hb hby d_prog_1_method_1_code_4) rfl rfl ?_
    refine XS.dloadN X3.here hx rfl (hb hby d_prog_1_method_1_code_5) rfl ?_
    exact kk
  clear k6
  obtain ⟨T8, h9, X10, e11, W12, st13⟩ := putF X3 hx hZ hown (host := "") (Or.inl (tw46 hw)) Via.refl e4 F0 E1 (Or.inr ⟨(tw47 hw), rfl, hnm⟩) (tw36 hw) (ty := .double) (by decide) rfl rfl (g := (mkF m 6 #[vr a, vd FP.dconst0, ss, vi (0 : Int32), vr b1, vd (9218868437227405311 : UInt64), ss, vi (1 : Int32), vr b2] [(.double FP.dconst0), (.ref a)])) rfl rfl (hb hby d_prog_1_method_1_code_6)
  have N14 := Fr.snoc X10 N0 ge_a
  have k15 : own_G p e below E0 T8 (mkF m 9 #[vr a, vd FP.dconst0, ss, vi (0 : Int32), vr b1, vd (9218868437227405311 : UInt64), ss, vi (1 : Int32), vr b2] []) := fun tQ kk => k7 tQ (st13 _ kk)
  clear k7 st13
  have F16 : xa6 Z h9 a := E1.wr W12
  clear E1
  have F17 : fd0 Z h9 a (.double FP.dconst0) := F0.same W12
  clear F0
  have F18 : fd1 Z h9 a (.int (0 : Int32)) := F1.other W12 (Or.inr (slot_ne (C := "rootzone/Bound") (Or.inr (tw49 hw)) (Or.inr (tw47 hw)) (by decide) (t := .boolean) (t' := .double) (by decide) (by decide)))
  clear F1
  have F19 : fd2 Z h9 a .null := F2.other W12 (Or.inr (slot_ne (C := "rootzone/Bound") (Or.inr (tw51 hw)) (Or.inr (tw47 hw)) (by decide) (t := (.object "java/lang/String")) (t' := .double) (by decide) (by decide)))
  clear F2
  have F20 : fd3 Z h9 a (.double (0 : UInt64)) := F3.other W12 (Or.inr (slot_ne (C := "rootzone/Bound") (Or.inr (tw53 hw)) (Or.inr (tw47 hw)) (by decide) (t := .double) (t' := .double) (by decide) (by decide)))
  clear F3
  have F21 : fd4 Z h9 a (.int (0 : Int32)) := F4.other W12 (Or.inr (slot_ne (C := "rootzone/Bound") (Or.inr (tw55 hw)) (Or.inr (tw47 hw)) (by decide) (t := .boolean) (t' := .double) (by decide) (by decide)))
  clear F4
  have F22 : fd5 Z h9 a .null := F5.other W12 (Or.inr (slot_ne (C := "rootzone/Bound") (Or.inr (tw57 hw)) (Or.inr (tw47 hw)) (by decide) (t := (.object "java/lang/String")) (t' := .double) (by decide) (by decide)))
  clear F5
  have Z23 : n0 ≤ h9.size := by rw [W12.size]; exact Z0
  have K24 : Keep h0 h9 [a] := K0.wr W12 (Or.inl (List.mem_of_getElem? (i := 0) rfl))
  have k25 : own_G p e below E0 T8 (mkF m 11 #[vr a, vd FP.dconst0, ss, vi (0 : Int32), vr b1, vd (9218868437227405311 : UInt64), ss, vi (1 : Int32), vr b2] [(.int (0 : Int32)), (.ref a)]) := by
    intro tQ kk
    refine k15 tQ ?_
    refine XS.aloadN X10.here hx rfl (hb hby d_prog_1_method_1_code_9) rfl rfl ?_
    refine XS.iloadN X10.here hx rfl (hb hby d_prog_1_method_1_code_10) rfl ?_
    exact kk
  clear k15
  obtain ⟨T26, h27, X28, e29, W30, st31⟩ := putF X10 hx hZ hown (host := "") (Or.inl (tw48 hw)) Via.refl e11 F18 F16 (Or.inr ⟨(tw49 hw), rfl, hnm⟩) (tw36 hw) (ty := .boolean) (by decide) rfl rfl (g := (mkF m 11 #[vr a, vd FP.dconst0, ss, vi (0 : Int32), vr b1, vd (9218868437227405311 : UInt64), ss, vi (1 : Int32), vr b2] [(.int (0 : Int32)), (.ref a)])) rfl rfl (hb hby d_prog_1_method_1_code_11)
  have N32 := Fr.snoc X28 N14 ge_a
  have k33 : own_G p e below E0 T26 (mkF m 14 #[vr a, vd FP.dconst0, ss, vi (0 : Int32), vr b1, vd (9218868437227405311 : UInt64), ss, vi (1 : Int32), vr b2] []) := fun tQ kk => k25 tQ (st31 _ kk)
  clear k25 st31
  have F34 : xa6 Z h27 a := F16.wr W30
  clear F16
  have F35 : fd0 Z h27 a (.double FP.dconst0) := F17.other W30 (Or.inr (slot_ne (C := "rootzone/Bound") (Or.inr (tw47 hw)) (Or.inr (tw49 hw)) (by decide) (t := .double) (t' := .boolean) (by decide) (by decide)))
  clear F17
  have F36 : fd1 Z h27 a (.int (0 : Int32)) := F18.same W30
  clear F18
  have F37 : fd2 Z h27 a .null := F19.other W30 (Or.inr (slot_ne (C := "rootzone/Bound") (Or.inr (tw51 hw)) (Or.inr (tw49 hw)) (by decide) (t := (.object "java/lang/String")) (t' := .boolean) (by decide) (by decide)))
  clear F19
  have F38 : fd3 Z h27 a (.double (0 : UInt64)) := F20.other W30 (Or.inr (slot_ne (C := "rootzone/Bound") (Or.inr (tw53 hw)) (Or.inr (tw49 hw)) (by decide) (t := .double) (t' := .boolean) (by decide) (by decide)))
  clear F20
  have F39 : fd4 Z h27 a (.int (0 : Int32)) := F21.other W30 (Or.inr (slot_ne (C := "rootzone/Bound") (Or.inr (tw55 hw)) (Or.inr (tw49 hw)) (by decide) (t := .boolean) (t' := .boolean) (by decide) (by decide)))
  clear F21
  have F40 : fd5 Z h27 a .null := F22.other W30 (Or.inr (slot_ne (C := "rootzone/Bound") (Or.inr (tw57 hw)) (Or.inr (tw49 hw)) (by decide) (t := (.object "java/lang/String")) (t' := .boolean) (by decide) (by decide)))
  clear F22
  have Z41 : n0 ≤ h27.size := by rw [W30.size]; exact Z23
  clear Z23
  have K42 : Keep h0 h27 [a] := K24.wr W30 (Or.inl (List.mem_of_getElem? (i := 0) rfl))
  clear K24
  have k43 : own_G p e below E0 T26 (mkF m 17 #[vr a, vd FP.dconst0, ss, vi (0 : Int32), vr b1, vd (9218868437227405311 : UInt64), ss, vi (1 : Int32), vr b2] [(.ref b1), (.ref a)]) := by
    intro tQ kk
    refine k33 tQ ?_
    refine XS.aloadN X28.here hx rfl (hb hby d_prog_1_method_1_code_14) rfl rfl ?_
    refine XS.aload X28.here hx rfl (hb hby d_prog_1_method_1_code_15) rfl rfl ?_
    exact kk
  clear k33
  obtain ⟨T44, h45, X46, e47, W48, st49⟩ := putF X28 hx hZ hown (host := "") (Or.inl (tw50 hw)) Via.refl e29 F37 F34 (Or.inr ⟨(tw51 hw), rfl, hnm⟩) (tw36 hw) (ty := (.object "java/lang/String")) (by decide) rfl rfl (g := (mkF m 17 #[vr a, vd FP.dconst0, ss, vi (0 : Int32), vr b1, vd (9218868437227405311 : UInt64), ss, vi (1 : Int32), vr b2] [(.ref b1), (.ref a)])) rfl rfl (hb hby d_prog_1_method_1_code_17)
  have N50 := Fr.snoc X46 N32 ge_a
  have k51 : own_G p e below E0 T44 (mkF m 20 #[vr a, vd FP.dconst0, ss, vi (0 : Int32), vr b1, vd (9218868437227405311 : UInt64), ss, vi (1 : Int32), vr b2] []) := fun tQ kk => k43 tQ (st49 _ kk)
  clear k43 st49
  have F52 : xa6 Z h45 a := F34.wr W48
  clear F34
  have F53 : fd0 Z h45 a (.double FP.dconst0) := F35.other W48 (Or.inr (slot_ne (C := "rootzone/Bound") (Or.inr (tw47 hw)) (Or.inr (tw51 hw)) (by decide) (t := .double) (t' := (.object "java/lang/String")) (by decide) (by decide)))
  clear F35
  have F54 : fd1 Z h45 a (.int (0 : Int32)) := F36.other W48 (Or.inr (slot_ne (C := "rootzone/Bound") (Or.inr (tw49 hw)) (Or.inr (tw51 hw)) (by decide) (t := .boolean) (t' := (.object "java/lang/String")) (by decide) (by decide)))
  clear F36
  have F55 : fd2 Z h45 a (.ref b1) := F37.same W48
  clear F37
  have F56 : fd3 Z h45 a (.double (0 : UInt64)) := F38.other W48 (Or.inr (slot_ne (C := "rootzone/Bound") (Or.inr (tw53 hw)) (Or.inr (tw51 hw)) (by decide) (t := .double) (t' := (.object "java/lang/String")) (by decide) (by decide)))
  clear F38
  have F57 : fd4 Z h45 a (.int (0 : Int32)) := F39.other W48 (Or.inr (slot_ne (C := "rootzone/Bound") (Or.inr (tw55 hw)) (Or.inr (tw51 hw)) (by decide) (t := .boolean) (t' := (.object "java/lang/String")) (by decide) (by decide)))
  clear F39
  have F58 : fd5 Z h45 a .null := F40.other W48 (Or.inr (slot_ne (C := "rootzone/Bound") (Or.inr (tw57 hw)) (Or.inr (tw51 hw)) (by decide) (t := (.object "java/lang/String")) (t' := (.object "java/lang/String")) (by decide) (by decide)))
  clear F40
  have Z59 : n0 ≤ h45.size := by rw [W48.size]; exact Z41
  clear Z41
  have K60 : Keep h0 h45 [a] := K42.wr W48 (Or.inl (List.mem_of_getElem? (i := 0) rfl))
  clear K42
  have k61 : own_G p e below E0 T44 (mkF m 23 #[vr a, vd FP.dconst0, ss, vi (0 : Int32), vr b1, vd (9218868437227405311 : UInt64), ss, vi (1 : Int32), vr b2] [(.double (9218868437227405311 : UInt64)), (.ref a)]) := by
    intro tQ kk
    refine k51 tQ ?_
    refine XS.aloadN X46.here hx rfl (hb hby d_prog_1_method_1_code_20) rfl rfl ?_
    refine XS.dload X46.here hx rfl (hb hby d_prog_1_method_1_code_21) rfl ?_
    exact kk
  clear k51
  obtain ⟨T62, h63, X64, e65, W66, st67⟩ := putF X46 hx hZ hown (host := "") (Or.inl (tw52 hw)) Via.refl e47 F56 F52 (Or.inr ⟨(tw53 hw), rfl, hnm⟩) (tw36 hw) (ty := .double) (by decide) rfl rfl (g := (mkF m 23 #[vr a, vd FP.dconst0, ss, vi (0 : Int32), vr b1, vd (9218868437227405311 : UInt64), ss, vi (1 : Int32), vr b2] [(.double (9218868437227405311 : UInt64)), (.ref a)])) rfl rfl (hb hby d_prog_1_method_1_code_23)
  have N68 := Fr.snoc X64 N50 ge_a
  have k69 : own_G p e below E0 T62 (mkF m 26 #[vr a, vd FP.dconst0, ss, vi (0 : Int32), vr b1, vd (9218868437227405311 : UInt64), ss, vi (1 : Int32), vr b2] []) := fun tQ kk => k61 tQ (st67 _ kk)
  clear k61 st67
  have F70 : xa6 Z h63 a := F52.wr W66
  clear F52
  have F71 : fd0 Z h63 a (.double FP.dconst0) := F53.other W66 (Or.inr (slot_ne (C := "rootzone/Bound") (Or.inr (tw47 hw)) (Or.inr (tw53 hw)) (by decide) (t := .double) (t' := .double) (by decide) (by decide)))
  clear F53
  have F72 : fd1 Z h63 a (.int (0 : Int32)) := F54.other W66 (Or.inr (slot_ne (C := "rootzone/Bound") (Or.inr (tw49 hw)) (Or.inr (tw53 hw)) (by decide) (t := .boolean) (t' := .double) (by decide) (by decide)))
  clear F54
  have F73 : fd2 Z h63 a (.ref b1) := F55.other W66 (Or.inr (slot_ne (C := "rootzone/Bound") (Or.inr (tw51 hw)) (Or.inr (tw53 hw)) (by decide) (t := (.object "java/lang/String")) (t' := .double) (by decide) (by decide)))
  clear F55
  have F74 : fd3 Z h63 a (.double (9218868437227405311 : UInt64)) := F56.same W66
  clear F56
  have F75 : fd4 Z h63 a (.int (0 : Int32)) := F57.other W66 (Or.inr (slot_ne (C := "rootzone/Bound") (Or.inr (tw55 hw)) (Or.inr (tw53 hw)) (by decide) (t := .boolean) (t' := .double) (by decide) (by decide)))
  clear F57
  have F76 : fd5 Z h63 a .null := F58.other W66 (Or.inr (slot_ne (C := "rootzone/Bound") (Or.inr (tw57 hw)) (Or.inr (tw53 hw)) (by decide) (t := (.object "java/lang/String")) (t' := .double) (by decide) (by decide)))
  clear F58
  have Z77 : n0 ≤ h63.size := by rw [W66.size]; exact Z59
  clear Z59
  have K78 : Keep h0 h63 [a] := K60.wr W66 (Or.inl (List.mem_of_getElem? (i := 0) rfl))
  clear K60
  have k79 : own_G p e below E0 T62 (mkF m 29 #[vr a, vd FP.dconst0, ss, vi (0 : Int32), vr b1, vd (9218868437227405311 : UInt64), ss, vi (1 : Int32), vr b2] [(.int (1 : Int32)), (.ref a)]) := by
    intro tQ kk
    refine k69 tQ ?_
    refine XS.aloadN X64.here hx rfl (hb hby d_prog_1_method_1_code_26) rfl rfl ?_
    refine XS.iload X64.here hx rfl (hb hby d_prog_1_method_1_code_27) rfl ?_
    exact kk
  clear k69
  obtain ⟨T80, h81, X82, e83, W84, st85⟩ := putF X64 hx hZ hown (host := "") (Or.inl (tw54 hw)) Via.refl e65 F75 F70 (Or.inr ⟨(tw55 hw), rfl, hnm⟩) (tw36 hw) (ty := .boolean) (by decide) rfl rfl (g := (mkF m 29 #[vr a, vd FP.dconst0, ss, vi (0 : Int32), vr b1, vd (9218868437227405311 : UInt64), ss, vi (1 : Int32), vr b2] [(.int (1 : Int32)), (.ref a)])) rfl rfl (hb hby d_prog_1_method_1_code_29)
  have N86 := Fr.snoc X82 N68 ge_a
  have k87 : own_G p e below E0 T80 (mkF m 32 #[vr a, vd FP.dconst0, ss, vi (0 : Int32), vr b1, vd (9218868437227405311 : UInt64), ss, vi (1 : Int32), vr b2] []) := fun tQ kk => k79 tQ (st85 _ kk)
  clear k79 st85
  have F88 : xa6 Z h81 a := F70.wr W84
  clear F70
  have F89 : fd0 Z h81 a (.double FP.dconst0) := F71.other W84 (Or.inr (slot_ne (C := "rootzone/Bound") (Or.inr (tw47 hw)) (Or.inr (tw55 hw)) (by decide) (t := .double) (t' := .boolean) (by decide) (by decide)))
  clear F71
  have F90 : fd1 Z h81 a (.int (0 : Int32)) := F72.other W84 (Or.inr (slot_ne (C := "rootzone/Bound") (Or.inr (tw49 hw)) (Or.inr (tw55 hw)) (by decide) (t := .boolean) (t' := .boolean) (by decide) (by decide)))
  clear F72
  have F91 : fd2 Z h81 a (.ref b1) := F73.other W84 (Or.inr (slot_ne (C := "rootzone/Bound") (Or.inr (tw51 hw)) (Or.inr (tw55 hw)) (by decide) (t := (.object "java/lang/String")) (t' := .boolean) (by decide) (by decide)))
  clear F73
  have F92 : fd3 Z h81 a (.double (9218868437227405311 : UInt64)) := F74.other W84 (Or.inr (slot_ne (C := "rootzone/Bound") (Or.inr (tw53 hw)) (Or.inr (tw55 hw)) (by decide) (t := .double) (t' := .boolean) (by decide) (by decide)))
  clear F74
  have F93 : fd4 Z h81 a (.int (1 : Int32)) := F75.same W84
  clear F75
  have F94 : fd5 Z h81 a .null := F76.other W84 (Or.inr (slot_ne (C := "rootzone/Bound") (Or.inr (tw57 hw)) (Or.inr (tw55 hw)) (by decide) (t := (.object "java/lang/String")) (t' := .boolean) (by decide) (by decide)))
  clear F76
  have Z95 : n0 ≤ h81.size := by rw [W84.size]; exact Z77
  clear Z77
  have K96 : Keep h0 h81 [a] := K78.wr W84 (Or.inl (List.mem_of_getElem? (i := 0) rfl))
  clear K78
  have k97 : own_G p e below E0 T80 (mkF m 35 #[vr a, vd FP.dconst0, ss, vi (0 : Int32), vr b1, vd (9218868437227405311 : UInt64), ss, vi (1 : Int32), vr b2] [(.ref b2), (.ref a)]) := by
    intro tQ kk
    refine k87 tQ ?_
    refine XS.aloadN X82.here hx rfl (hb hby d_prog_1_method_1_code_32) rfl rfl ?_
    refine XS.aload X82.here hx rfl (hb hby d_prog_1_method_1_code_33) rfl rfl ?_
    exact kk
  clear k87
  obtain ⟨T98, h99, X100, e101, W102, st103⟩ := putF X82 hx hZ hown (host := "") (Or.inl (tw56 hw)) Via.refl e83 F94 F88 (Or.inr ⟨(tw57 hw), rfl, hnm⟩) (tw36 hw) (ty := (.object "java/lang/String")) (by decide) rfl rfl (g := (mkF m 35 #[vr a, vd FP.dconst0, ss, vi (0 : Int32), vr b1, vd (9218868437227405311 : UInt64), ss, vi (1 : Int32), vr b2] [(.ref b2), (.ref a)])) rfl rfl (hb hby d_prog_1_method_1_code_35)
  have N104 := Fr.snoc X100 N86 ge_a
  have k105 : own_G p e below E0 T98 (mkF m 38 #[vr a, vd FP.dconst0, ss, vi (0 : Int32), vr b1, vd (9218868437227405311 : UInt64), ss, vi (1 : Int32), vr b2] []) := fun tQ kk => k97 tQ (st103 _ kk)
  clear k97 st103
  have F106 : xa6 Z h99 a := F88.wr W102
  clear F88
  have F107 : fd0 Z h99 a (.double FP.dconst0) := F89.other W102 (Or.inr (slot_ne (C := "rootzone/Bound") (Or.inr (tw47 hw)) (Or.inr (tw57 hw)) (by decide) (t := .double) (t' := (.object "java/lang/String")) (by decide) (by decide)))
  clear F89
  have F108 : fd1 Z h99 a (.int (0 : Int32)) := F90.other W102 (Or.inr (slot_ne (C := "rootzone/Bound") (Or.inr (tw49 hw)) (Or.inr (tw57 hw)) (by decide) (t := .boolean) (t' := (.object "java/lang/String")) (by decide) (by decide)))
  clear F90
  have F109 : fd2 Z h99 a (.ref b1) := F91.other W102 (Or.inr (slot_ne (C := "rootzone/Bound") (Or.inr (tw51 hw)) (Or.inr (tw57 hw)) (by decide) (t := (.object "java/lang/String")) (t' := (.object "java/lang/String")) (by decide) (by decide)))
  clear F91
  have F110 : fd3 Z h99 a (.double (9218868437227405311 : UInt64)) := F92.other W102 (Or.inr (slot_ne (C := "rootzone/Bound") (Or.inr (tw53 hw)) (Or.inr (tw57 hw)) (by decide) (t := .double) (t' := (.object "java/lang/String")) (by decide) (by decide)))
  clear F92
  have F111 : fd4 Z h99 a (.int (1 : Int32)) := F93.other W102 (Or.inr (slot_ne (C := "rootzone/Bound") (Or.inr (tw55 hw)) (Or.inr (tw57 hw)) (by decide) (t := .boolean) (t' := (.object "java/lang/String")) (by decide) (by decide)))
  clear F93
  have F112 : fd5 Z h99 a (.ref b2) := F94.same W102
  clear F94
  have Z113 : n0 ≤ h99.size := by rw [W102.size]; exact Z95
  clear Z95
  have K114 : Keep h0 h99 [a] := K96.wr W102 (Or.inl (List.mem_of_getElem? (i := 0) rfl))
  clear K96
  obtain ⟨fs, hr, hrun, hended, hW, hsame⟩ := X100.leave (v := none) (fun _ => rfl)
  have hrun0 := k105 _ (X100.returnOut hx Bd.returns (hb hby d_prog_1_method_1_code_38) hr)
  subst hE0
  refine ⟨_, _, hrun0, hrun, hended, _, _, rfl, ?_, ⟨_, rfl⟩, hW, hsame.mono (by decide) (by decide)⟩
  show QrmBi Z a b1 b2 h0 n0 _ T98.heap _
  rw [e101]
  exact ⟨rfl, N104, K114, F107, F108, F109, F110, F111, F112⟩
def QrmBm (Z : State)  (h0 : Heap) (n0 : Nat) (vQ : Option Value) (hQ : Heap) (LQ : List Loc) : Prop := ∃ (r : Addr), vQ = some (.ref r) ∧ Fr n0 LQ ∧ Keep h0 hQ [] ∧ (xa6 Z hQ r) ∧ (fd0 Z hQ r (.double FP.dconst0)) ∧ (fd1 Z hQ r (.int (0 : Int32))) ∧ (fd3 Z hQ r (.double (9218868437227405311 : UInt64))) ∧ (fd4 Z hQ r (.int (1 : Int32))) ∧ (h0.size ≤ r)
theorem ef_rmBm (m : MethodId)  : entryFrame m #[] 0 = mkF m 0 #[] [] := by first | (simp [entryFrame, mkF, argsToLocals, Value.category]; done) | rfl
abbrev mn8 : MethodName := ⟨"rootzone/Bound", "positive", "()Lrootzone/Bound;"⟩
theorem d_prog_1_method_7_code_0 : decode prog_1_method_7_code 0 = .ok (.new 8, 3) := by decide +kernel
def tw35 {Z : State} {a0 : Array Value} (hw : ∀ d ∈ tables_1, d.before a0 Z = true) := hw _ (List.mem_of_getElem? (i := 35) rfl)
def tw33 {Z : State} {a0 : Array Value} (hw : ∀ d ∈ tables_1, d.before a0 Z = true) := hw _ (List.mem_of_getElem? (i := 33) rfl)
theorem d_prog_1_method_7_code_3 : decode prog_1_method_7_code 3 = .ok (.dup, 1) := by decide +kernel
theorem d_prog_1_method_7_code_4 : decode prog_1_method_7_code 4 = .ok (.dconst 0, 1) := by decide +kernel
theorem d_prog_1_method_7_code_5 : decode prog_1_method_7_code 5 = .ok (.iconst 0, 1) := by decide +kernel
theorem d_prog_1_method_7_code_6 : decode prog_1_method_7_code 6 = .ok (.ldc 56, 2) := by decide +kernel
def tw37 {Z : State} {a0 : Array Value} (hw : ∀ d ∈ tables_1, d.before a0 Z = true) := hw _ (List.mem_of_getElem? (i := 37) rfl)
theorem own_sA {Z : State} {a0 : Array Value} (hw : ∀ d ∈ tables_1, d.before a0 Z = true) : ∀ d ∈ Bundle.stringAtoms, d.before a0 Z = true := fun d hd => hw d ((by decide +kernel : ∀ d ∈ Bundle.stringAtoms, d ∈ tables_1) d hd)
theorem d_prog_1_method_7_code_8 : decode prog_1_method_7_code 8 = .ok (.ldc2_w 52, 3) := by decide +kernel
def tw40 {Z : State} {a0 : Array Value} (hw : ∀ d ∈ tables_1, d.before a0 Z = true) := hw _ (List.mem_of_getElem? (i := 40) rfl)
theorem d_prog_1_method_7_code_11 : decode prog_1_method_7_code 11 = .ok (.iconst 1, 1) := by decide +kernel
theorem d_prog_1_method_7_code_12 : decode prog_1_method_7_code 12 = .ok (.ldc 54, 2) := by decide +kernel
def tw41 {Z : State} {a0 : Array Value} (hw : ∀ d ∈ tables_1, d.before a0 Z = true) := hw _ (List.mem_of_getElem? (i := 41) rfl)
theorem d_prog_1_method_7_code_14 : decode prog_1_method_7_code 14 = .ok (.invokespecial 40, 3) := by decide +kernel
def tw42 {Z : State} {a0 : Array Value} (hw : ∀ d ∈ tables_1, d.before a0 Z = true) := hw _ (List.mem_of_getElem? (i := 42) rfl)
def tw44 {Z : State} {a0 : Array Value} (hw : ∀ d ∈ tables_1, d.before a0 Z = true) := hw _ (List.mem_of_getElem? (i := 44) rfl)
theorem pd_9 : parseMethodDescriptor "(DZLjava/lang/String;DZLjava/lang/String;)V" = some ⟨[.double, .boolean, (.object "java/lang/String"), .double, .boolean, (.object "java/lang/String")], none⟩ := by decide +kernel
def tw43 {Z : State} {a0 : Array Value} (hw : ∀ d ∈ tables_1, d.before a0 Z = true) := hw _ (List.mem_of_getElem? (i := 43) rfl)
theorem d_prog_1_method_7_code_17 : decode prog_1_method_7_code 17 = .ok (.areturn, 1) := by decide +kernel
set_option maxRecDepth 65536 in
set_option maxHeartbeats 40000000 in
theorem rmBm (l : Launch) (Z : State) (a0 : Array Value) (hw : ∀ d ∈ tables_1, d.before a0 Z = true) (ws : List Jvm.Cond)  (h0 : Heap) (n0 : Nat) (Z0 : n0 ≤ h0.size)  :
    MetFree l mn8 (head1 (Jvm.Cond.code mn8 prog_1_method_7_code 0 (some (.object "rootzone/Bound")) :: ws) ({ frames := 2, cells := 5, slots := 122, locals := 36 } : Room)) (fun aA U => aA = #[] ∧ Z.Warmed39 U.vm ∧ U.heap = h0) (fun _ _ _ _ _ => True) (fun _ U o U' => ∃ vR LR, o = .returned vR ∧ QrmBm Z  h0 n0 vR U'.heap LR ∧ ReturnedEndW U o U' LR ({ frames := 2, cells := 5, slots := 122, locals := 36 } : Room).cells ({ frames := 2, cells := 5, slots := 122, locals := 36 } : Room).slots) := by
  refine MetFree.of_bodySF (plainFor_of_name pn_rootzone_Bound) hisR ?_
  intro p e s m args below meth c s₁ Bd hml0 hPre hKk
  obtain ⟨rfl, hZ, hh⟩ := hPre
  have hx := Bd.exec
  have hby := Bd.bytes
  skip
  have hml : c.maxLocals = 0 := hml0
  have hown : s.vm.findClass "rootzone/Bound" = some m.cls := findClass_of_methodNamed Bd.named
  have hnm := (name_of_methodNamed Bd.named Bd.method).1
  have X0 : Stand p l e ({ frames := 2, cells := 5, slots := 122, locals := 36 } : Room) (s.setVm s.vm) m #[] below meth c s₁ [] 0 0 := Stand.of_body Bd
  have e0 : s₁.heap = h0 := by rw [← hh, Bd.state]; rfl
  have N0 := Fr.nil n0
  obtain ⟨E0, hE0⟩ : ∃ zE : State, zE = s₁.setTop (entryFrame m #[] 0) := ⟨_, rfl⟩
  have k0 : own_G p e below E0 s₁ (mkF m 0 #[] []) := fun tz kz => hE0 ▸ castTop (ef_rmBm m ) kz
  have S0 : s.Since s.vm 0 := (State.WarmedH.refl s).since 0
  have LE0 : own_Le 0 h0 := Nat.zero_le _
  have K0 : Keep h0 h0 [] := Keep.refl _ _
  obtain ⟨T115, h116, X117, e118, E119, A120, D121, -, st122⟩ := newO X0 hx hZ hown (tw35 hw) (tw36 hw) (tw33 hw) e0 (g := (mkF m 0 #[] [])) rfl (hb hby d_prog_1_method_7_code_0) (by decide) (by decide)
  obtain ⟨a123, g124⟩ : ∃ zA : Nat, zA = h0.size := ⟨_, rfl⟩
  rw [← g124] at A120 D121 st122
  have nw125 : h0.size ≤ a123 := own_ge_of K0.1 g124
  have ge126 : n0 ≤ a123 := own_ge_of Z0 g124
  have Z127 : n0 ≤ h116.size := Nat.le_trans Z0 E119.1
  have F128 : own_Le 0 h116 := LE0.ext E119
  have K129 : Keep h0 h116 [] := K0.ext E119
  have F130 : Fld Z h116 a123 "rootzone/Bound" "least" "D" (.double (0 : UInt64)) := (D121 (Or.inr (tw47 hw)) (ty := .double) (by decide))
  have F131 : Fld Z h116 a123 "rootzone/Bound" "leastIncluded" "Z" (.int (0 : Int32)) := (D121 (Or.inr (tw49 hw)) (ty := .boolean) (by decide))
  have F132 : Fld Z h116 a123 "rootzone/Bound" "below" "Ljava/lang/String;" .null := (D121 (Or.inr (tw51 hw)) (ty := (.object "java/lang/String")) (by decide))
  have F133 : Fld Z h116 a123 "rootzone/Bound" "most" "D" (.double (0 : UInt64)) := (D121 (Or.inr (tw53 hw)) (ty := .double) (by decide))
  have F134 : Fld Z h116 a123 "rootzone/Bound" "mostIncluded" "Z" (.int (0 : Int32)) := (D121 (Or.inr (tw55 hw)) (ty := .boolean) (by decide))
  have F135 : Fld Z h116 a123 "rootzone/Bound" "above" "Ljava/lang/String;" .null := (D121 (Or.inr (tw57 hw)) (ty := (.object "java/lang/String")) (by decide))
  have k136 : own_G p e below E0 T115 (mkF m 3 #[] [(.ref a123)]) := fun tQ kk => k0 tQ (st122 _ kk)
  clear k0 st122
  have k137 : own_G p e below E0 T115 (mkF m 6 #[] [(.int (0 : Int32)), (.double FP.dconst0), (.ref a123), (.ref a123)]) := by
    intro tQ kk
    refine k136 tQ ?_
    refine XS.dup X117.here hx rfl (hb hby d_prog_1_method_7_code_3) rfl rfl ?_
    refine XS.dconst0 X117.here hx rfl (hb hby d_prog_1_method_7_code_4) rfl ?_
    refine XS.iconst X117.here hx rfl (hb hby d_prog_1_method_7_code_5) ?_
    exact kk
  clear k136
  obtain ⟨a138, T139, h140, ks141, X142, e143, E144, S145, Kl146, hZ, hown, st147⟩ := ldcS X117 hx hZ hown (tw37 hw) (own_sA hw) e118 S0 F128 (g := (mkF m 6 #[] [(.int (0 : Int32)), (.double FP.dconst0), (.ref a123), (.ref a123)])) rfl (hb hby d_prog_1_method_7_code_6) (n := 56) (by decide) (by decide) (by decide) (by decide)
  have Z148 : n0 ≤ h140.size := Nat.le_trans Z127 E144.1
  clear Z127
  have F149 : xa6 Z h140 a123 := A120.ext E144
  clear A120
  have F150 : fd0 Z h140 a123 (.double (0 : UInt64)) := F130.ext E144
  clear F130
  have F151 : fd1 Z h140 a123 (.int (0 : Int32)) := F131.ext E144
  clear F131
  have F152 : fd2 Z h140 a123 .null := F132.ext E144
  clear F132
  have F153 : fd3 Z h140 a123 (.double (0 : UInt64)) := F133.ext E144
  clear F133
  have F154 : fd4 Z h140 a123 (.int (0 : Int32)) := F134.ext E144
  clear F134
  have F155 : fd5 Z h140 a123 .null := F135.ext E144
  clear F135
  have K156 : Keep h0 h140 [] := K129.ext E144
  clear K129
  have F157 : own_Le ks141 h140 := Kl146
  have k158 : own_G p e below E0 T139 (mkF m 8 #[] [(.ref a138), (.int (0 : Int32)), (.double FP.dconst0), (.ref a123), (.ref a123)]) := fun tQ kk => k137 tQ (st147 _ kk)
  clear k137 st147
  have st159 := X142.ldc2DoubleC hx hown (mvT hZ (tw40 hw)) (g := (mkF m 8 #[] [(.ref a138), (.int (0 : Int32)), (.double FP.dconst0), (.ref a123), (.ref a123)])) rfl (hb hby d_prog_1_method_7_code_8)
  have k160 : own_G p e below E0 T139 (mkF m 11 #[] [(.double (9218868437227405311 : UInt64)), (.ref a138), (.int (0 : Int32)), (.double FP.dconst0), (.ref a123), (.ref a123)]) := fun tQ kk => k158 tQ (st159 _ kk)
  clear k158 st159
  have k161 : own_G p e below E0 T139 (mkF m 12 #[] [(.int (1 : Int32)), (.double (9218868437227405311 : UInt64)), (.ref a138), (.int (0 : Int32)), (.double FP.dconst0), (.ref a123), (.ref a123)]) := by
    intro tQ kk
    refine k160 tQ ?_
    refine XS.iconst X142.here hx rfl (hb hby d_prog_1_method_7_code_11) ?_
    exact kk
  clear k160
  obtain ⟨a162, T163, h164, ks165, X166, e167, E168, S169, Kl170, hZ, hown, st171⟩ := ldcS X142 hx hZ hown (tw41 hw) (own_sA hw) e143 S145 F157 (g := (mkF m 12 #[] [(.int (1 : Int32)), (.double (9218868437227405311 : UInt64)), (.ref a138), (.int (0 : Int32)), (.double FP.dconst0), (.ref a123), (.ref a123)])) rfl (hb hby d_prog_1_method_7_code_12) (n := 52) (by decide) (by decide) (by decide) (by decide)
  have Z172 : n0 ≤ h164.size := Nat.le_trans Z148 E168.1
  clear Z148
  have F173 : xa6 Z h164 a123 := F149.ext E168
  clear F149
  have F174 : fd0 Z h164 a123 (.double (0 : UInt64)) := F150.ext E168
  clear F150
  have F175 : fd1 Z h164 a123 (.int (0 : Int32)) := F151.ext E168
  clear F151
  have F176 : fd2 Z h164 a123 .null := F152.ext E168
  clear F152
  have F177 : fd3 Z h164 a123 (.double (0 : UInt64)) := F153.ext E168
  clear F153
  have F178 : fd4 Z h164 a123 (.int (0 : Int32)) := F154.ext E168
  clear F154
  have F179 : fd5 Z h164 a123 .null := F155.ext E168
  clear F155
  have K180 : Keep h0 h164 [] := K156.ext E168
  clear K156
  have F181 : own_Le ks165 h164 := Kl170
  have k182 : own_G p e below E0 T163 (mkF m 14 #[] [(.ref a162), (.int (1 : Int32)), (.double (9218868437227405311 : UInt64)), (.ref a138), (.int (0 : Int32)), (.double FP.dconst0), (.ref a123), (.ref a123)]) := fun tQ kk => k161 tQ (st171 _ kk)
  clear k161 st171
  obtain ⟨_, _, ⟨T183, L184, kc185, nc186⟩, -, X187, ⟨Lc188, hQ189, l190, y191, z192⟩, st193⟩ := X166.specialBack hx (y := mn7) rfl hown (mvT hZ (tw42 hw)) (mvT hZ (tw43 hw)) (mvT hZ (tw44 hw)) (by decide) (backOf (W := 1) (rmBi l Z a0 hw [] a123 a138 a162 h164 n0 Z172 F173 F174 F175 F176 F177 F178 F179 ge126) hZ (tw44 hw) (tw33 hw) (by decide) (by decide)) (g := (mkF m 14 #[] [(.ref a162), (.int (1 : Int32)), (.double (9218868437227405311 : UInt64)), (.ref a138), (.int (0 : Int32)), (.double FP.dconst0), (.ref a123), (.ref a123)])) rfl (by rw [hml]; rfl) (Steps.refl _) (a := a123) (argsL := [(.double FP.dconst0), (.int (0 : Int32)), (.ref a138), (.double (9218868437227405311 : UInt64)), (.int (1 : Int32)), (.ref a162)]) (rest := [(.ref a123)]) (lenOf pd_9 rfl) rfl (by show 2 * 0 + _ ≤ _; exact Nat.le_of_eq rfl) (hb hby d_prog_1_method_7_code_14) (fun _ _ => ⟨rfl, e167, (by decide : 5 + 0 ≤ _), (by decide : 122 + 0 ≤ _)⟩)
  dsimp only [Pt.U, Pt.locs, Pt.cells, Pt.slots] at X187 l190 y191 z192 st193 hQ189
  subst y191 z192
  obtain ⟨rfl, N194, K197, g198, g199, g200, g201, g202, g203⟩ := hQ189
  have N204 : Fr n0 L184 := by rw [l190]; exact Fr.app N0 N194
  clear l190 N194
  have Z205 : n0 ≤ T183.heap.size := Nat.le_trans Z172 K197.1
  clear Z172
  have F206 : xa6 Z T183.heap a123 := F173.keep K197
  clear F173
  clear F174
  clear F175
  clear F176
  clear F177
  clear F178
  clear F179
  have F207 : own_Le ks165 T183.heap := F181.keep K197
  clear F181
  have K208 : Keep h0 T183.heap [] := K180.trans K197 (allS (Or.inr nw125) all0)
  clear K180
  have k209 : own_G p e below E0 T183 (mkF m 17 #[] [(.ref a123)]) := fun tQ kk => k182 tQ (st193.trans kk)
  clear k182 st193
  obtain ⟨fs, hr, hrun, hended, hRW⟩ := X187.leaveW S169 F207 (v := some (.ref a123)) (fun h => by rw [Bd.returns] at h; cases h)
  have hrun0 := k209 _ (retOut X187 hx Bd.returns (t := (.object "rootzone/Bound")) rfl (Or.inr (Or.inr (Or.inr (Or.inr ⟨rfl, rfl, rfl⟩)))) (hb hby d_prog_1_method_7_code_17) hr)
  subst hE0
  refine ⟨_, _, hrun0, hrun, hended, _, _, rfl, ?_, ⟨_, rfl⟩, hRW.2.1, hRW.2.2.1, hRW.2.2.2.mono (by decide) (by decide)⟩
  show QrmBm Z  h0 n0 _ T183.heap _
  exact ⟨a123, rfl, N204, K208, F206, g198, g199, g201, g202, nw125⟩
def QrmNa (Z : State) (x : UInt64) (h0 : Heap) (n0 : Nat) (vQ : Option Value) (hQ : Heap) (LQ : List Loc) : Prop := vQ = some (.int (0 : Int32)) ∧ Fr n0 LQ ∧ hQ = h0
theorem ef_rmNa (m : MethodId) (x : UInt64) : entryFrame m #[(.double x)] 2 = mkF m 0 #[vd x, ss] [] := by first | (simp [entryFrame, mkF, argsToLocals, Value.category]; done) | rfl
abbrev mn10 : MethodName := ⟨"java/lang/Double", "isNaN", "(D)Z"⟩
theorem pn_java_lang_Double : plainName "java/lang/Double" = true := by first | (simp [plainName, overriddenIn]; done) | decide +kernel
theorem d_jdk_117_method_6_code_0 : decode jdk_117_method_6_code 0 = .ok (.dload_n 0, 1) := by decide +kernel
theorem d_jdk_117_method_6_code_1 : decode jdk_117_method_6_code 1 = .ok (.dload_n 0, 1) := by decide +kernel
theorem d_jdk_117_method_6_code_2 : decode jdk_117_method_6_code 2 = .ok (.dcmp .l, 1) := by decide +kernel
theorem d_jdk_117_method_6_code_3 : decode jdk_117_method_6_code 3 = .ok (.ifCond .eq 7, 3) := by decide +kernel
theorem d_jdk_117_method_6_code_10 : decode jdk_117_method_6_code 10 = .ok (.iconst 0, 1) := by decide +kernel
theorem d_jdk_117_method_6_code_11 : decode jdk_117_method_6_code 11 = .ok (.ireturn, 1) := by decide +kernel
set_option maxRecDepth 65536 in
set_option maxHeartbeats 40000000 in
theorem rmNa (l : Launch) (Z : State) (a0 : Array Value) (hw : ∀ d ∈ tables_1, d.before a0 Z = true) (ws : List Jvm.Cond) (x : UInt64) (h0 : Heap) (n0 : Nat) (Z0 : n0 ≤ h0.size) (nx : NoNaN64 x) :
    MetFree l mn10 (head1 (Jvm.Cond.code mn10 jdk_117_method_6_code 2 (some .boolean) :: ws) ({ frames := 0, cells := 0, slots := 0, locals := 0 } : Room)) (fun aA U => aA = #[(.double x)] ∧ Z.Warmed39 U.vm ∧ U.heap = h0) (fun _ _ _ _ _ => True) (fun _ U o U' => ∃ vR LR, o = .returned vR ∧ QrmNa Z x h0 n0 vR U'.heap LR ∧ FrameEnd U o U' LR ({ frames := 0, cells := 0, slots := 0, locals := 0 } : Room).cells ({ frames := 0, cells := 0, slots := 0, locals := 0 } : Room).slots) := by
  refine MetFree.of_bodySF (plainFor_of_name pn_java_lang_Double) hisR ?_
  intro p e s m args below meth c s₁ Bd hml0 hPre hKk
  obtain ⟨rfl, hZ, hh⟩ := hPre
  have hx := Bd.exec
  have hby := Bd.bytes
  skip
  have hml : c.maxLocals = 2 := hml0
  have hown : s.vm.findClass "java/lang/Double" = some m.cls := findClass_of_methodNamed Bd.named
  have hnm := (name_of_methodNamed Bd.named Bd.method).1
  have X0 : Stand p l e ({ frames := 0, cells := 0, slots := 0, locals := 0 } : Room) s m #[(.double x)] below meth c s₁ [] 0 0 := Stand.of_body Bd
  have e0 : s₁.heap = h0 := by rw [← hh, Bd.state]; rfl
  have N0 := Fr.nil n0
  obtain ⟨E0, hE0⟩ : ∃ zE : State, zE = s₁.setTop (entryFrame m #[(.double x)] 2) := ⟨_, rfl⟩
  have k0 : own_G p e below E0 s₁ (mkF m 0 #[vd x, ss] []) := fun tz kz => hE0 ▸ castTop (ef_rmNa m x) kz
  have k210 : own_G p e below E0 s₁ (mkF m 11 #[vd x, ss] [(.int (0 : Int32))]) := by
    intro tQ kk
    refine k0 tQ ?_
    refine XS.dloadN X0.here hx rfl (hb hby d_jdk_117_method_6_code_0) rfl ?_
    refine XS.dloadN X0.here hx rfl (hb hby d_jdk_117_method_6_code_1) rfl ?_
    refine XS.dcmpS (v := (0 : Int32)) X0.here hx rfl (hb hby d_jdk_117_method_6_code_2) rfl (own_eqz .l nx nx rfl) ?_
    refine XS.ifYes X0.here hx rfl (pc0 := 3) (pc' := 10) rfl (hb hby d_jdk_117_method_6_code_3) rfl (own_if_eqY (by decide)) (by decide) (by decide) ?_
    show Steps p.tables e below (s₁.setTop (mkF m 10 #[vd x, ss] [])) tQ
    refine XS.iconst X0.here hx rfl (hb hby d_jdk_117_method_6_code_10) ?_
    exact kk
  clear k0
  obtain ⟨fs, hr, hrun, hended, hW, hsame⟩ := X0.leave (v := some (.int (0 : Int32))) (fun h => by rw [Bd.returns] at h; cases h)
  have hrun0 := k210 _ (retOut X0 hx Bd.returns (t := .boolean) rfl (Or.inl ⟨rfl, Or.inr (Or.inl rfl), _, rfl⟩) (hb hby d_jdk_117_method_6_code_11) hr)
  subst hE0
  refine ⟨_, _, hrun0, hrun, hended, _, _, rfl, ?_, ⟨_, rfl⟩, hW, hsame.mono (by decide) (by decide)⟩
  show QrmNa Z x h0 n0 _ s₁.heap _
  rw [e0]
  exact ⟨rfl, N0, rfl⟩
def QrmCg (Z : State) (a : Addr) (nm : Addr) (x : UInt64) (h0 : Heap) (n0 : Nat) (vQ : Option Value) (hQ : Heap) (LQ : List Loc) : Prop := vQ = some (.double x) ∧ Fr n0 LQ ∧ hQ = h0
theorem ef_rmCg (m : MethodId) (a : Addr) (nm : Addr) (x : UInt64) : entryFrame m #[(.ref a), (.ref nm), (.double x)] 6 = mkF m 0 #[vr a, vr nm, vd x, ss, uu, uu] [] := by first | (simp [entryFrame, mkF, argsToLocals, Value.category]; done) | rfl
abbrev mn11 : MethodName := ⟨"rootzone/Bound", "checkGiven", "(Ljava/lang/String;D)D"⟩
theorem d_prog_1_method_10_code_0 : decode prog_1_method_10_code 0 = .ok (.aload_n 0, 1) := by decide +kernel
theorem d_prog_1_method_10_code_1 : decode prog_1_method_10_code 1 = .ok (.getfield 13, 3) := by decide +kernel
theorem d_prog_1_method_10_code_4 : decode prog_1_method_10_code 4 = .ok (.ifCond .eq 20, 3) := by decide +kernel
theorem d_prog_1_method_10_code_24 : decode prog_1_method_10_code 24 = .ok (.dload_n 2, 1) := by decide +kernel
theorem d_prog_1_method_10_code_25 : decode prog_1_method_10_code 25 = .ok (.aload_n 0, 1) := by decide +kernel
theorem d_prog_1_method_10_code_26 : decode prog_1_method_10_code 26 = .ok (.getfield 7, 3) := by decide +kernel
theorem d_prog_1_method_10_code_29 : decode prog_1_method_10_code 29 = .ok (.dcmp .g, 1) := by decide +kernel
theorem d_prog_1_method_10_code_30 : decode prog_1_method_10_code 30 = .ok (.ifCond .gt 7, 3) := by decide +kernel
theorem d_prog_1_method_10_code_37 : decode prog_1_method_10_code 37 = .ok (.iconst 0, 1) := by decide +kernel
theorem d_prog_1_method_10_code_38 : decode prog_1_method_10_code 38 = .ok (.istore 4, 2) := by decide +kernel
theorem d_prog_1_method_10_code_40 : decode prog_1_method_10_code 40 = .ok (.aload_n 0, 1) := by decide +kernel
theorem d_prog_1_method_10_code_41 : decode prog_1_method_10_code 41 = .ok (.getfield 24, 3) := by decide +kernel
theorem d_prog_1_method_10_code_44 : decode prog_1_method_10_code 44 = .ok (.ifCond .eq 20, 3) := by decide +kernel
theorem d_prog_1_method_10_code_47 : decode prog_1_method_10_code 47 = .ok (.dload_n 2, 1) := by decide +kernel
theorem d_prog_1_method_10_code_48 : decode prog_1_method_10_code 48 = .ok (.aload_n 0, 1) := by decide +kernel
theorem d_prog_1_method_10_code_49 : decode prog_1_method_10_code 49 = .ok (.getfield 21, 3) := by decide +kernel
theorem d_prog_1_method_10_code_52 : decode prog_1_method_10_code 52 = .ok (.dcmp .l, 1) := by decide +kernel
theorem d_prog_1_method_10_code_53 : decode prog_1_method_10_code 53 = .ok (.ifCond .le 7, 3) := by decide +kernel
theorem d_prog_1_method_10_code_60 : decode prog_1_method_10_code 60 = .ok (.iconst 0, 1) := by decide +kernel
theorem d_prog_1_method_10_code_61 : decode prog_1_method_10_code 61 = .ok (.goto 17, 3) := by decide +kernel
theorem d_prog_1_method_10_code_78 : decode prog_1_method_10_code 78 = .ok (.istore 5, 2) := by decide +kernel
theorem d_prog_1_method_10_code_80 : decode prog_1_method_10_code 80 = .ok (.iload 4, 2) := by decide +kernel
theorem d_prog_1_method_10_code_82 : decode prog_1_method_10_code 82 = .ok (.ifCond .eq 16, 3) := by decide +kernel
theorem d_prog_1_method_10_code_98 : decode prog_1_method_10_code 98 = .ok (.iload 5, 2) := by decide +kernel
theorem d_prog_1_method_10_code_100 : decode prog_1_method_10_code 100 = .ok (.ifCond .eq 16, 3) := by decide +kernel
theorem d_prog_1_method_10_code_116 : decode prog_1_method_10_code 116 = .ok (.dload_n 2, 1) := by decide +kernel
theorem d_prog_1_method_10_code_117 : decode prog_1_method_10_code 117 = .ok (.dreturn, 1) := by decide +kernel
set_option maxRecDepth 65536 in
set_option maxHeartbeats 40000000 in
theorem rmCg (l : Launch) (Z : State) (a0 : Array Value) (hw : ∀ d ∈ tables_1, d.before a0 Z = true) (ws : List Jvm.Cond) (a : Addr) (nm : Addr) (x : UInt64) (h0 : Heap) (n0 : Nat) (Z0 : n0 ≤ h0.size) (E1 : xa6 Z h0 a) (F0 : fd0 Z h0 a (.double FP.dconst0)) (F1 : fd1 Z h0 a (.int (0 : Int32))) (F2 : fd3 Z h0 a (.double (9218868437227405311 : UInt64))) (F3 : fd4 Z h0 a (.int (1 : Int32))) (nx : NoNaN64 x) (gx : (own_z FP.dconst0) < own_z x) (lx : ¬ (own_z (9218868437227405311 : UInt64)) < own_z x) :
    MetFree l mn11 (head1 (Jvm.Cond.code mn11 prog_1_method_10_code 6 (some .double) :: ws) ({ frames := 0, cells := 0, slots := 0, locals := 0 } : Room)) (fun aA U => aA = #[(.ref a), (.ref nm), (.double x)] ∧ Z.Warmed39 U.vm ∧ U.heap = h0) (fun _ _ _ _ _ => True) (fun _ U o U' => ∃ vR LR, o = .returned vR ∧ QrmCg Z a nm x h0 n0 vR U'.heap LR ∧ FrameEnd U o U' LR ({ frames := 0, cells := 0, slots := 0, locals := 0 } : Room).cells ({ frames := 0, cells := 0, slots := 0, locals := 0 } : Room).slots) := by
  refine MetFree.of_bodySF (plainFor_of_name pn_rootzone_Bound) hisR ?_
  intro p e s m args below meth c s₁ Bd hml0 hPre hKk
  obtain ⟨rfl, hZ, hh⟩ := hPre
  have hx := Bd.exec
  have hby := Bd.bytes
  skip
  have hml : c.maxLocals = 6 := hml0
  have hown : s.vm.findClass "rootzone/Bound" = some m.cls := findClass_of_methodNamed Bd.named
  have hnm := (name_of_methodNamed Bd.named Bd.method).1
  have X0 : Stand p l e ({ frames := 0, cells := 0, slots := 0, locals := 0 } : Room) s m #[(.ref a), (.ref nm), (.double x)] below meth c s₁ [] 0 0 := Stand.of_body Bd
  have e0 : s₁.heap = h0 := by rw [← hh, Bd.state]; rfl
  have N0 := Fr.nil n0
  obtain ⟨E0, hE0⟩ : ∃ zE : State, zE = s₁.setTop (entryFrame m #[(.ref a), (.ref nm), (.double x)] 6) := ⟨_, rfl⟩
  have k0 : own_G p e below E0 s₁ (mkF m 0 #[vr a, vr nm, vd x, ss, uu, uu] []) := fun tz kz => hE0 ▸ castTop (ef_rmCg m a nm x) kz
  have k211 : own_G p e below E0 s₁ (mkF m 1 #[vr a, vr nm, vd x, ss, uu, uu] [(.ref a)]) := by
    intro tQ kk
    refine k0 tQ ?_
    refine XS.aloadN X0.here hx rfl (hb hby d_prog_1_method_10_code_0) rfl rfl ?_
    exact kk
  clear k0
  obtain ⟨T212, X213, e214, st215⟩ := getF X0 hx hZ hown (host := "") (Or.inl (tw48 hw)) Via.refl e0 F1 (g := (mkF m 1 #[vr a, vr nm, vd x, ss, uu, uu] [(.ref a)])) rfl rfl (hb hby d_prog_1_method_10_code_1)
  have k216 : own_G p e below E0 T212 (mkF m 4 #[vr a, vr nm, vd x, ss, uu, uu] [(.int (0 : Int32))]) := fun tQ kk => k211 tQ (st215 _ kk)
  clear k211 st215
  have k217 : own_G p e below E0 T212 (mkF m 26 #[vr a, vr nm, vd x, ss, uu, uu] [(.ref a), (.double x)]) := by
    intro tQ kk
    refine k216 tQ ?_
    refine XS.ifYes X213.here hx rfl (pc0 := 4) (pc' := 24) rfl (hb hby d_prog_1_method_10_code_4) rfl (own_if_eqY (by decide)) (by decide) (by decide) ?_
    refine XS.dloadN X213.here hx rfl (hb hby d_prog_1_method_10_code_24) rfl ?_
    refine XS.aloadN X213.here hx rfl (hb hby d_prog_1_method_10_code_25) rfl rfl ?_
    exact kk
  clear k216
  obtain ⟨T218, X219, e220, st221⟩ := getF X213 hx hZ hown (host := "") (Or.inl (tw46 hw)) Via.refl e214 F0 (g := (mkF m 26 #[vr a, vr nm, vd x, ss, uu, uu] [(.ref a), (.double x)])) rfl rfl (hb hby d_prog_1_method_10_code_26)
  have k222 : own_G p e below E0 T218 (mkF m 29 #[vr a, vr nm, vd x, ss, uu, uu] [(.double FP.dconst0), (.double x)]) := fun tQ kk => k217 tQ (st221 _ kk)
  clear k217 st221
  have k223 : own_G p e below E0 T218 (mkF m 41 #[vr a, vr nm, vd x, ss, vi (0 : Int32), uu] [(.ref a)]) := by
    intro tQ kk
    refine k222 tQ ?_
    refine XS.dcmpS (v := (own_c (own_z x) (own_z FP.dconst0))) X219.here hx rfl (hb hby d_prog_1_method_10_code_29) rfl (own_cE .g (own_cmpz nx own_n0)) ?_
    refine XS.ifYes X219.here hx rfl (pc0 := 30) (pc' := 37) rfl (hb hby d_prog_1_method_10_code_30) rfl (own_c_gtY gx) (by decide) (by decide) ?_
    refine XS.iconst X219.here hx rfl (hb hby d_prog_1_method_10_code_37) ?_
    refine XS.istore X219.here hx rfl (hb hby d_prog_1_method_10_code_38) rfl (l' := #[vr a, vr nm, vd x, ss, vi (0 : Int32), uu]) rfl ?_
    show Steps p.tables e below (T218.setTop (mkF m 40 #[vr a, vr nm, vd x, ss, vi (0 : Int32), uu] [])) tQ
    refine XS.aloadN X219.here hx rfl (hb hby d_prog_1_method_10_code_40) rfl rfl ?_
    exact kk
  clear k222
  obtain ⟨T224, X225, e226, st227⟩ := getF X219 hx hZ hown (host := "") (Or.inl (tw54 hw)) Via.refl e220 F3 (g := (mkF m 41 #[vr a, vr nm, vd x, ss, vi (0 : Int32), uu] [(.ref a)])) rfl rfl (hb hby d_prog_1_method_10_code_41)
  have k228 : own_G p e below E0 T224 (mkF m 44 #[vr a, vr nm, vd x, ss, vi (0 : Int32), uu] [(.int (1 : Int32))]) := fun tQ kk => k223 tQ (st227 _ kk)
  clear k223 st227
  have k229 : own_G p e below E0 T224 (mkF m 49 #[vr a, vr nm, vd x, ss, vi (0 : Int32), uu] [(.ref a), (.double x)]) := by
    intro tQ kk
    refine k228 tQ ?_
    refine XS.ifNo X225.here hx rfl (hb hby d_prog_1_method_10_code_44) rfl (own_if_eqN (by decide)) ?_
    refine XS.dloadN X225.here hx rfl (hb hby d_prog_1_method_10_code_47) rfl ?_
    refine XS.aloadN X225.here hx rfl (hb hby d_prog_1_method_10_code_48) rfl rfl ?_
    exact kk
  clear k228
  obtain ⟨T230, X231, e232, st233⟩ := getF X225 hx hZ hown (host := "") (Or.inl (tw52 hw)) Via.refl e226 F2 (g := (mkF m 49 #[vr a, vr nm, vd x, ss, vi (0 : Int32), uu] [(.ref a), (.double x)])) rfl rfl (hb hby d_prog_1_method_10_code_49)
  have k234 : own_G p e below E0 T230 (mkF m 52 #[vr a, vr nm, vd x, ss, vi (0 : Int32), uu] [(.double (9218868437227405311 : UInt64)), (.double x)]) := fun tQ kk => k229 tQ (st233 _ kk)
  clear k229 st233
  have k235 : own_G p e below E0 T230 (mkF m 117 #[vr a, vr nm, vd x, ss, vi (0 : Int32), vi (0 : Int32)] [(.double x)]) := by
    intro tQ kk
    refine k234 tQ ?_
    refine XS.dcmpS (v := (own_c (own_z x) (own_z (9218868437227405311 : UInt64)))) X231.here hx rfl (hb hby d_prog_1_method_10_code_52) rfl (own_cE .l (own_cmpz nx own_nM)) ?_
    refine XS.ifYes X231.here hx rfl (pc0 := 53) (pc' := 60) rfl (hb hby d_prog_1_method_10_code_53) rfl (own_c_leY lx) (by decide) (by decide) ?_
    refine XS.iconst X231.here hx rfl (hb hby d_prog_1_method_10_code_60) ?_
    refine XS.goto X231.here hx rfl (pc0 := 61) (pc' := 78) rfl (hb hby d_prog_1_method_10_code_61) (by decide) (by decide) ?_
    show Steps p.tables e below (T230.setTop (mkF m 78 #[vr a, vr nm, vd x, ss, vi (0 : Int32), uu] [(.int (0 : Int32))])) tQ
    refine XS.istore X231.here hx rfl (hb hby d_prog_1_method_10_code_78) rfl (l' := #[vr a, vr nm, vd x, ss, vi (0 : Int32), vi (0 : Int32)]) rfl ?_
    refine XS.iload X231.here hx rfl (hb hby d_prog_1_method_10_code_80) rfl ?_
    refine XS.ifYes X231.here hx rfl (pc0 := 82) (pc' := 98) rfl (hb hby d_prog_1_method_10_code_82) rfl (own_if_eqY (by decide)) (by decide) (by decide) ?_
    refine XS.iload X231.here hx rfl (hb hby d_prog_1_method_10_code_98) rfl ?_
    show Steps p.tables e below (T230.setTop (mkF m 100 #[vr a, vr nm, vd x, ss, vi (0 : Int32), vi (0 : Int32)] [(.int (0 : Int32))])) tQ
    refine XS.ifYes X231.here hx rfl (pc0 := 100) (pc' := 116) rfl (hb hby d_prog_1_method_10_code_100) rfl (own_if_eqY (by decide)) (by decide) (by decide) ?_
    refine XS.dloadN X231.here hx rfl (hb hby d_prog_1_method_10_code_116) rfl ?_
    exact kk
  clear k234
  obtain ⟨fs, hr, hrun, hended, hW, hsame⟩ := X231.leave (v := some (.double x)) (fun h => by rw [Bd.returns] at h; cases h)
  have hrun0 := k235 _ (retOut X231 hx Bd.returns (t := .double) rfl (Or.inr (Or.inr (Or.inl ⟨rfl, rfl, _, rfl⟩))) (hb hby d_prog_1_method_10_code_117) hr)
  subst hE0
  refine ⟨_, _, hrun0, hrun, hended, _, _, rfl, ?_, ⟨_, rfl⟩, hW, hsame.mono (by decide) (by decide)⟩
  show QrmCg Z a nm x h0 n0 _ T230.heap _
  rw [e232]
  exact ⟨rfl, N0, rfl⟩
def QrmCk (Z : State) (a : Addr) (nm : Addr) (x : UInt64) (h0 : Heap) (n0 : Nat) (vQ : Option Value) (hQ : Heap) (LQ : List Loc) : Prop := vQ = some (.double x) ∧ Fr n0 LQ ∧ hQ = h0
theorem ef_rmCk (m : MethodId) (a : Addr) (nm : Addr) (x : UInt64) : entryFrame m #[(.ref a), (.ref nm), (.double x)] 4 = mkF m 0 #[vr a, vr nm, vd x, ss] [] := by first | (simp [entryFrame, mkF, argsToLocals, Value.category]; done) | rfl
abbrev mn12 : MethodName := ⟨"rootzone/Bound", "check", "(Ljava/lang/String;D)D"⟩
theorem d_prog_1_method_9_code_0 : decode prog_1_method_9_code 0 = .ok (.dload_n 2, 1) := by decide +kernel
theorem d_prog_1_method_9_code_1 : decode prog_1_method_9_code 1 = .ok (.invokestatic 59, 3) := by decide +kernel
def tw69 {Z : State} {a0 : Array Value} (hw : ∀ d ∈ tables_1, d.before a0 Z = true) := hw _ (List.mem_of_getElem? (i := 69) rfl)
def tw72 {Z : State} {a0 : Array Value} (hw : ∀ d ∈ tables_1, d.before a0 Z = true) := hw _ (List.mem_of_getElem? (i := 72) rfl)
def tw71 {Z : State} {a0 : Array Value} (hw : ∀ d ∈ tables_1, d.before a0 Z = true) := hw _ (List.mem_of_getElem? (i := 71) rfl)
theorem pd_13 : parseMethodDescriptor "(D)Z" = some ⟨[.double], some .boolean⟩ := by decide +kernel
def tw70 {Z : State} {a0 : Array Value} (hw : ∀ d ∈ tables_1, d.before a0 Z = true) := hw _ (List.mem_of_getElem? (i := 70) rfl)
theorem d_prog_1_method_9_code_4 : decode prog_1_method_9_code 4 = .ok (.ifCond .eq 11, 3) := by decide +kernel
theorem d_prog_1_method_9_code_15 : decode prog_1_method_9_code 15 = .ok (.aload_n 0, 1) := by decide +kernel
theorem d_prog_1_method_9_code_16 : decode prog_1_method_9_code 16 = .ok (.aload_n 1, 1) := by decide +kernel
theorem d_prog_1_method_9_code_17 : decode prog_1_method_9_code 17 = .ok (.dload_n 2, 1) := by decide +kernel
theorem d_prog_1_method_9_code_18 : decode prog_1_method_9_code 18 = .ok (.invokevirtual 71, 3) := by decide +kernel
def tw73 {Z : State} {a0 : Array Value} (hw : ∀ d ∈ tables_1, d.before a0 Z = true) := hw _ (List.mem_of_getElem? (i := 73) rfl)
def tw61 {Z : State} {a0 : Array Value} (hw : ∀ d ∈ tables_1, d.before a0 Z = true) := hw _ (List.mem_of_getElem? (i := 61) rfl)
def tw62 {Z : State} {a0 : Array Value} (hw : ∀ d ∈ tables_1, d.before a0 Z = true) := hw _ (List.mem_of_getElem? (i := 62) rfl)
theorem pd_14 : parseMethodDescriptor "(Ljava/lang/String;D)D" = some ⟨[(.object "java/lang/String"), .double], some .double⟩ := by decide +kernel
def tw59 {Z : State} {a0 : Array Value} (hw : ∀ d ∈ tables_1, d.before a0 Z = true) := hw _ (List.mem_of_getElem? (i := 59) rfl)
def tw60 {Z : State} {a0 : Array Value} (hw : ∀ d ∈ tables_1, d.before a0 Z = true) := hw _ (List.mem_of_getElem? (i := 60) rfl)
theorem d_prog_1_method_9_code_21 : decode prog_1_method_9_code 21 = .ok (.dreturn, 1) := by decide +kernel
set_option maxRecDepth 65536 in
set_option maxHeartbeats 40000000 in
theorem rmCk (l : Launch) (Z : State) (a0 : Array Value) (hw : ∀ d ∈ tables_1, d.before a0 Z = true) (ws : List Jvm.Cond) (a : Addr) (nm : Addr) (x : UInt64) (h0 : Heap) (n0 : Nat) (Z0 : n0 ≤ h0.size) (E1 : xa6 Z h0 a) (F0 : fd0 Z h0 a (.double FP.dconst0)) (F1 : fd1 Z h0 a (.int (0 : Int32))) (F2 : fd3 Z h0 a (.double (9218868437227405311 : UInt64))) (F3 : fd4 Z h0 a (.int (1 : Int32))) (nx : NoNaN64 x) (gx : (own_z FP.dconst0) < own_z x) (lx : ¬ (own_z (9218868437227405311 : UInt64)) < own_z x) :
    MetFree l mn12 (head1 (Jvm.Cond.code mn12 prog_1_method_9_code 4 (some .double) :: ws) ({ frames := 1, cells := 0, slots := 0, locals := 20 } : Room)) (fun aA U => aA = #[(.ref a), (.ref nm), (.double x)] ∧ Z.Warmed39 U.vm ∧ U.heap = h0) (fun _ _ _ _ _ => True) (fun _ U o U' => ∃ vR LR, o = .returned vR ∧ QrmCk Z a nm x h0 n0 vR U'.heap LR ∧ FrameEnd U o U' LR ({ frames := 1, cells := 0, slots := 0, locals := 20 } : Room).cells ({ frames := 1, cells := 0, slots := 0, locals := 20 } : Room).slots) := by
  refine MetFree.of_bodySF (plainFor_of_name pn_rootzone_Bound) hisR ?_
  intro p e s m args below meth c s₁ Bd hml0 hPre hKk
  obtain ⟨rfl, hZ, hh⟩ := hPre
  have hx := Bd.exec
  have hby := Bd.bytes
  skip
  have hml : c.maxLocals = 4 := hml0
  have hown : s.vm.findClass "rootzone/Bound" = some m.cls := findClass_of_methodNamed Bd.named
  have hnm := (name_of_methodNamed Bd.named Bd.method).1
  have X0 : Stand p l e ({ frames := 1, cells := 0, slots := 0, locals := 20 } : Room) s m #[(.ref a), (.ref nm), (.double x)] below meth c s₁ [] 0 0 := Stand.of_body Bd
  have e0 : s₁.heap = h0 := by rw [← hh, Bd.state]; rfl
  have N0 := Fr.nil n0
  obtain ⟨E0, hE0⟩ : ∃ zE : State, zE = s₁.setTop (entryFrame m #[(.ref a), (.ref nm), (.double x)] 4) := ⟨_, rfl⟩
  have k0 : own_G p e below E0 s₁ (mkF m 0 #[vr a, vr nm, vd x, ss] []) := fun tz kz => hE0 ▸ castTop (ef_rmCk m a nm x) kz
  have k236 : own_G p e below E0 s₁ (mkF m 1 #[vr a, vr nm, vd x, ss] [(.double x)]) := by
    intro tQ kk
    refine k0 tQ ?_
    refine XS.dloadN X0.here hx rfl (hb hby d_prog_1_method_9_code_0) rfl ?_
    exact kk
  clear k0
  obtain ⟨_, _, ⟨T237, L238, kc239, nc240⟩, -, X241, ⟨Lc242, hQ243, l244, y245, z246⟩, st247⟩ := Jvm.LawKit.callS X0 hx (y := mn10) hown (mvT hZ (tw69 hw)) (mvT hZ (tw70 hw)) (mvT hZ (tw71 hw)) (mvT hZ (tw72 hw)) (by decide) (backOf (W := 0) (rmNa l Z a0 hw [] x h0 n0 Z0 nx) hZ (tw72 hw) (tw71 hw) (by decide) (by decide)) (g := (mkF m 1 #[vr a, vr nm, vd x, ss] [(.double x)])) rfl (by rw [hml]; rfl) (argsL := [(.double x)]) (rest := []) (lenOf pd_13 rfl) rfl (by show 2 * 0 + _ ≤ _; exact Nat.le_of_eq rfl) (hb hby d_prog_1_method_9_code_1) (fun _ _ => ⟨rfl, e0, (by decide : 0 + 0 ≤ _), (by decide : 0 + 0 ≤ _)⟩)
  dsimp only [Pt.U, Pt.locs, Pt.cells, Pt.slots] at X241 l244 y245 z246 st247 hQ243
  subst y245 z246
  obtain ⟨rfl, N248, e249⟩ := hQ243
  have N251 : Fr n0 L238 := by rw [l244]; exact Fr.app N0 N248
  clear l244 N248
  have k252 : own_G p e below E0 T237 (mkF m 4 #[vr a, vr nm, vd x, ss] [(.int (0 : Int32))]) := fun tQ kk => k236 tQ (st247 _ kk)
  clear k236 st247
  have k253 : own_G p e below E0 T237 (mkF m 18 #[vr a, vr nm, vd x, ss] [(.double x), (.ref nm), (.ref a)]) := by
    intro tQ kk
    refine k252 tQ ?_
    refine XS.ifYes X241.here hx rfl (pc0 := 4) (pc' := 15) rfl (hb hby d_prog_1_method_9_code_4) rfl (own_if_eqY (by decide)) (by decide) (by decide) ?_
    refine XS.aloadN X241.here hx rfl (hb hby d_prog_1_method_9_code_15) rfl rfl ?_
    refine XS.aloadN X241.here hx rfl (hb hby d_prog_1_method_9_code_16) rfl rfl ?_
    refine XS.dloadN X241.here hx rfl (hb hby d_prog_1_method_9_code_17) rfl ?_
    exact kk
  clear k252
  obtain ⟨cq265, kq266, qa267, qb268, qc269⟩ := isOf hZ e249 E1
  obtain ⟨_, _, ⟨T254, L255, kc256, nc257⟩, -, X258, ⟨Lc259, hQ260, l261, y262, z263⟩, st264⟩ := X241.virtualBack hx (y := mn11) (z := mn11) hown (mvT hZ (tw73 hw)) (mvT hZ (tw59 hw)) (notFace_of_selects (args := #[]) (mvT hZ (tw61 hw))) (mvT hZ (tw61 hw)) (mvT hZ (tw60 hw)) (by decide) (backOf (W := 0) (rmCg l Z a0 hw [] a nm x h0 n0 Z0 E1 F0 F1 F2 F3 nx gx lx) hZ (tw62 hw) (tw33 hw) (by decide) (by decide)) qa267 qc269 (g := (mkF m 18 #[vr a, vr nm, vd x, ss] [(.double x), (.ref nm), (.ref a)])) rfl (by rw [hml]; rfl) (Steps.refl _) (argsL := [(.ref nm), (.double x)]) (rest := []) (lenOf pd_14 rfl) rfl (by show 2 * 0 + _ ≤ _; exact Nat.le_of_eq rfl) (hb hby d_prog_1_method_9_code_18) (fun _ _ => ⟨rfl, e249, (by decide : 0 + 0 ≤ _), (by decide : 0 + 0 ≤ _)⟩)
  dsimp only [Pt.U, Pt.locs, Pt.cells, Pt.slots] at X258 l261 y262 z263 st264 hQ260
  subst y262 z263
  obtain ⟨rfl, N270, e271⟩ := hQ260
  have N273 : Fr n0 L255 := by rw [l261]; exact Fr.app N251 N270
  clear l261 N270
  have k274 : own_G p e below E0 T254 (mkF m 21 #[vr a, vr nm, vd x, ss] [(.double x)]) := fun tQ kk => k253 tQ (st264.trans kk)
  clear k253 st264
  obtain ⟨fs, hr, hrun, hended, hW, hsame⟩ := X258.leave (v := some (.double x)) (fun h => by rw [Bd.returns] at h; cases h)
  have hrun0 := k274 _ (retOut X258 hx Bd.returns (t := .double) rfl (Or.inr (Or.inr (Or.inl ⟨rfl, rfl, _, rfl⟩))) (hb hby d_prog_1_method_9_code_21) hr)
  subst hE0
  refine ⟨_, _, hrun0, hrun, hended, _, _, rfl, ?_, ⟨_, rfl⟩, hW, hsame.mono (by decide) (by decide)⟩
  show QrmCk Z a nm x h0 n0 _ T254.heap _
  rw [e271]
  exact ⟨rfl, N273, rfl⟩
def Qrm0 (Z : State) (p0 : Int32) (p1 : Int32) (p2 : Int32) (p3 : Int32) (G1 : Int32) (h0 : Heap) (n0 : Nat) (vQ : Option Value) (hQ : Heap) (LQ : List Loc) : Prop := vQ = some (.int (1 : Int32)) ∧ Fr n0 LQ
theorem ef_rm0 (m : MethodId) (p0 : Int32) (p1 : Int32) (p2 : Int32) (p3 : Int32) (G1 : Int32) : entryFrame m #[(.int p0), (.int p1), (.int p2), (.int p3)] maxLocals = mkF m 0 #[vi p0, vi p1, vi p2, vi p3, uu, uu, uu, uu, uu, uu, uu, uu, uu, uu, uu, uu, uu] [] := by first | (simp [entryFrame, mkF, argsToLocals, Value.category, maxLocals]; done) | rfl
theorem pn_rootzone_BoundPositivePinLaw : plainName "rootzone/BoundPositivePinLaw" = true := by first | (simp [plainName, overriddenIn]; done) | decide +kernel
def tw0 {Z : State} {a0 : Array Value} (hw : ∀ d ∈ tables_1, d.before a0 Z = true) := hw _ (List.mem_of_getElem? (i := 0) rfl)
def tw63 {Z : State} {a0 : Array Value} (hw : ∀ d ∈ tables_1, d.before a0 Z = true) := hw _ (List.mem_of_getElem? (i := 63) rfl)
def tw74 {Z : State} {a0 : Array Value} (hw : ∀ d ∈ tables_1, d.before a0 Z = true) := hw _ (List.mem_of_getElem? (i := 74) rfl)
def tw1 {Z : State} {a0 : Array Value} (hw : ∀ d ∈ tables_1, d.before a0 Z = true) := hw _ (List.mem_of_getElem? (i := 1) rfl)
def tw2 {Z : State} {a0 : Array Value} (hw : ∀ d ∈ tables_1, d.before a0 Z = true) := hw _ (List.mem_of_getElem? (i := 2) rfl)
def tw3 {Z : State} {a0 : Array Value} (hw : ∀ d ∈ tables_1, d.before a0 Z = true) := hw _ (List.mem_of_getElem? (i := 3) rfl)
def tw4 {Z : State} {a0 : Array Value} (hw : ∀ d ∈ tables_1, d.before a0 Z = true) := hw _ (List.mem_of_getElem? (i := 4) rfl)
def tw28 {Z : State} {a0 : Array Value} (hw : ∀ d ∈ tables_1, d.before a0 Z = true) := hw _ (List.mem_of_getElem? (i := 28) rfl)
def tw30 {Z : State} {a0 : Array Value} (hw : ∀ d ∈ tables_1, d.before a0 Z = true) := hw _ (List.mem_of_getElem? (i := 30) rfl)
def tw5 {Z : State} {a0 : Array Value} (hw : ∀ d ∈ tables_1, d.before a0 Z = true) := hw _ (List.mem_of_getElem? (i := 5) rfl)
theorem own_hws {Z : State} {a0 : Array Value} (hw : ∀ d ∈ tables_1, d.before a0 Z = true) : ∀ d ∈ StrChars.Road.words, d.before a0 Z = true := fun d hd => hw d ((by decide +kernel : ∀ d ∈ StrChars.Road.words, d ∈ tables_1) d hd)
abbrev mn15 : MethodName := ⟨"java/lang/String", "<init>", "([C)V"⟩
def tw6 {Z : State} {a0 : Array Value} (hw : ∀ d ∈ tables_1, d.before a0 Z = true) := hw _ (List.mem_of_getElem? (i := 6) rfl)
def tw7 {Z : State} {a0 : Array Value} (hw : ∀ d ∈ tables_1, d.before a0 Z = true) := hw _ (List.mem_of_getElem? (i := 7) rfl)
theorem pd_16 : parseMethodDescriptor "([C)V" = some ⟨[(.array .char)], none⟩ := by decide +kernel
abbrev xa17 (Z : State) (h : Heap) (a : Addr) : Prop := Exa Z h a "java/lang/String"
def tw31 {Z : State} {a0 : Array Value} (hw : ∀ d ∈ tables_1, d.before a0 Z = true) := hw _ (List.mem_of_getElem? (i := 31) rfl)
def tw34 {Z : State} {a0 : Array Value} (hw : ∀ d ∈ tables_1, d.before a0 Z = true) := hw _ (List.mem_of_getElem? (i := 34) rfl)
theorem pd_18 : parseMethodDescriptor "()Lrootzone/Bound;" = some ⟨[], some (.object "rootzone/Bound")⟩ := by decide +kernel
def tw32 {Z : State} {a0 : Array Value} (hw : ∀ d ∈ tables_1, d.before a0 Z = true) := hw _ (List.mem_of_getElem? (i := 32) rfl)
def tw58 {Z : State} {a0 : Array Value} (hw : ∀ d ∈ tables_1, d.before a0 Z = true) := hw _ (List.mem_of_getElem? (i := 58) rfl)
def tw64 {Z : State} {a0 : Array Value} (hw : ∀ d ∈ tables_1, d.before a0 Z = true) := hw _ (List.mem_of_getElem? (i := 64) rfl)
def tw67 {Z : State} {a0 : Array Value} (hw : ∀ d ∈ tables_1, d.before a0 Z = true) := hw _ (List.mem_of_getElem? (i := 67) rfl)
def tw68 {Z : State} {a0 : Array Value} (hw : ∀ d ∈ tables_1, d.before a0 Z = true) := hw _ (List.mem_of_getElem? (i := 68) rfl)
def tw65 {Z : State} {a0 : Array Value} (hw : ∀ d ∈ tables_1, d.before a0 Z = true) := hw _ (List.mem_of_getElem? (i := 65) rfl)
def tw66 {Z : State} {a0 : Array Value} (hw : ∀ d ∈ tables_1, d.before a0 Z = true) := hw _ (List.mem_of_getElem? (i := 66) rfl)
set_option maxRecDepth 65536 in
set_option maxHeartbeats 40000000 in
theorem rm0 (l : Launch) (Z : State) (a0 : Array Value) (hw : ∀ d ∈ tables_1, d.before a0 Z = true) (ws : List Jvm.Cond) (p0 : Int32) (p1 : Int32) (p2 : Int32) (p3 : Int32) (G1 : Int32) (h0 : Heap) (n0 : Nat) (Z0 : n0 ≤ h0.size) (FS : Sta Z h0 "java/lang/String" "COMPACT_STRINGS" "Z" (.int G1)) (hG : ¬ G1 = 0) :
    MetFree l x (head1 (Jvm.Cond.code x code maxLocals ret :: ws) room_1) (fun aA U => aA = #[(.int p0), (.int p1), (.int p2), (.int p3)] ∧ Z.Warmed39 U.vm ∧ U.heap = h0) (fun _ _ _ _ _ => True) (fun _ U o U' => ∃ vR LR, o = .returned vR ∧ Qrm0 Z p0 p1 p2 p3 G1 h0 n0 vR U'.heap LR ∧ ReturnedEndW U o U' LR 24 2176) := by
  refine MetFree.of_bodySF (plainFor_of_name pn_rootzone_BoundPositivePinLaw) hisR ?_
  intro p e s m args below meth c s₁ Bd hml0 hPre hKk
  obtain ⟨rfl, hZ, hh⟩ := hPre
  have hx := Bd.exec
  have hby := Bd.bytes
  skip
  have hml : c.maxLocals = 17 := hml0
  have hown : s.vm.findClass "rootzone/BoundPositivePinLaw" = some m.cls := findClass_of_methodNamed Bd.named
  have hnm := (name_of_methodNamed Bd.named Bd.method).1
  have X0 : Stand p l e room_1 (s.setVm s.vm) m #[(.int p0), (.int p1), (.int p2), (.int p3)] below meth c s₁ [] 0 0 := Stand.of_body Bd
  have e0 : s₁.heap = h0 := by rw [← hh, Bd.state]; rfl
  have N0 := Fr.nil n0
  obtain ⟨E0, hE0⟩ : ∃ zE : State, zE = s₁.setTop (entryFrame m #[(.int p0), (.int p1), (.int p2), (.int p3)] maxLocals) := ⟨_, rfl⟩
  have k0 : own_G p e below E0 s₁ (mkF m 0 #[vi p0, vi p1, vi p2, vi p3, uu, uu, uu, uu, uu, uu, uu, uu, uu, uu, uu, uu, uu] []) := fun tz kz => hE0 ▸ castTop (ef_rm0 m p0 p1 p2 p3 G1) kz
  have S0 : s.Since s.vm 0 := (State.WarmedH.refl s).since 0
  have LE0 : own_Le 0 h0 := Nat.zero_le _
  have k275 : own_G p e below E0 s₁ (mkF m 1 #[vi p0, vi p1, vi p2, vi p3, uu, uu, uu, uu, uu, uu, uu, uu, uu, uu, uu, uu, uu] [(.int p0)]) := by
    intro tQ kk
    refine k0 tQ ?_
    refine XS.iloadN X0.here hx rfl (hb hby at_0) rfl ?_
    exact kk
  clear k0
  have st276 := X0.ldcInt hx hown (mvT hZ (tw0 hw)) (g := (mkF m 1 #[vi p0, vi p1, vi p2, vi p3, uu, uu, uu, uu, uu, uu, uu, uu, uu, uu, uu, uu, uu] [(.int p0)])) rfl (hb hby at_1)
  have k277 : own_G p e below E0 s₁ (mkF m 3 #[vi p0, vi p1, vi p2, vi p3, uu, uu, uu, uu, uu, uu, uu, uu, uu, uu, uu, uu, uu] [(.int (2147483647 : Int32)), (.int p0)]) := fun tQ kk => k275 tQ (st276 _ kk)
  clear k275 st276
  have k278 : own_G p e below E0 s₁ (mkF m 7 #[vi p0, vi p1, vi p2, vi p3, uu, uu, uu, uu, uu, uu, uu, uu, uu, uu, uu, uu, uu] [(.long (((p0 &&& (2147483647 : Int32)).toInt64) + (1 : Int64)))]) := by
    intro tQ kk
    refine k277 tQ ?_
    refine XS.iand X0.here hx rfl (hb hby at_3) rfl ?_
    refine XT.i2l X0.here hx rfl (hb hby at_4) rfl ?_
    refine XT.lconst X0.here hx rfl (hb hby at_5) ?_
    refine XT.ladd X0.here hx rfl (hb hby at_6) rfl ?_
    exact kk
  clear k277
  obtain ⟨nu, hnu⟩ : ∃ vA, FP.l2d (((p0 &&& (2147483647 : Int32)).toInt64) + (1 : Int64)) = vA := ⟨_, rfl⟩
  have k279 : own_G p e below E0 s₁ (mkF m 11 #[vi p0, vi p1, vi p2, vi p3, vd nu, ss, uu, uu, uu, uu, uu, uu, uu, uu, uu, uu, uu] [(.int p1)]) := by
    intro tQ kk
    refine k278 tQ ?_
    refine XS.l2dS X0.here hx rfl (hb hby at_7) rfl hnu ?_
    refine XS.dstore X0.here hx rfl (hb hby at_8) rfl (l' := #[vi p0, vi p1, vi p2, vi p3, vd nu, ss, uu, uu, uu, uu, uu, uu, uu, uu, uu, uu, uu]) rfl ?_
    refine XS.iloadN X0.here hx rfl (hb hby at_10) rfl ?_
    exact kk
  clear k278
  have st280 := X0.ldcInt hx hown (mvT hZ (tw0 hw)) (g := (mkF m 11 #[vi p0, vi p1, vi p2, vi p3, vd nu, ss, uu, uu, uu, uu, uu, uu, uu, uu, uu, uu, uu] [(.int p1)])) rfl (hb hby at_11)
  have k281 : own_G p e below E0 s₁ (mkF m 13 #[vi p0, vi p1, vi p2, vi p3, vd nu, ss, uu, uu, uu, uu, uu, uu, uu, uu, uu, uu, uu] [(.int (2147483647 : Int32)), (.int p1)]) := fun tQ kk => k279 tQ (st280 _ kk)
  clear k279 st280
  have k282 : own_G p e below E0 s₁ (mkF m 17 #[vi p0, vi p1, vi p2, vi p3, vd nu, ss, uu, uu, uu, uu, uu, uu, uu, uu, uu, uu, uu] [(.long (((p1 &&& (2147483647 : Int32)).toInt64) + (1 : Int64)))]) := by
    intro tQ kk
    refine k281 tQ ?_
    refine XS.iand X0.here hx rfl (hb hby at_13) rfl ?_
    refine XT.i2l X0.here hx rfl (hb hby at_14) rfl ?_
    refine XT.lconst X0.here hx rfl (hb hby at_15) ?_
    refine XT.ladd X0.here hx rfl (hb hby at_16) rfl ?_
    exact kk
  clear k281
  obtain ⟨de, hde⟩ : ∃ vA, FP.l2d (((p1 &&& (2147483647 : Int32)).toInt64) + (1 : Int64)) = vA := ⟨_, rfl⟩
  have k283 : own_G p e below E0 s₁ (mkF m 25 #[vi p0, vi p1, vi p2, vi p3, vd nu, ss, vd de, ss, vi (p3 &&& (3 : Int32)), uu, uu, uu, uu, uu, uu, uu, uu] []) := by
    intro tQ kk
    refine k282 tQ ?_
    refine XS.l2dS X0.here hx rfl (hb hby at_17) rfl hde ?_
    refine XS.dstore X0.here hx rfl (hb hby at_18) rfl (l' := #[vi p0, vi p1, vi p2, vi p3, vd nu, ss, vd de, ss, uu, uu, uu, uu, uu, uu, uu, uu, uu]) rfl ?_
    refine XS.iloadN X0.here hx rfl (hb hby at_20) rfl ?_
    refine XS.iconst X0.here hx rfl (hb hby at_21) ?_
    show Steps p.tables e below (s₁.setTop (mkF m 22 #[vi p0, vi p1, vi p2, vi p3, vd nu, ss, vd de, ss, uu, uu, uu, uu, uu, uu, uu, uu, uu] [(.int (3 : Int32)), (.int p3)])) tQ
    refine XS.iand X0.here hx rfl (hb hby at_22) rfl ?_
    refine XS.istore X0.here hx rfl (hb hby at_23) rfl (l' := #[vi p0, vi p1, vi p2, vi p3, vd nu, ss, vd de, ss, vi (p3 &&& (3 : Int32)), uu, uu, uu, uu, uu, uu, uu, uu]) rfl ?_
    exact kk
  clear k282
  have jn301 : ∃ (v : UInt64), (own_V v) ∧ (own_G p e below E0 s₁ (mkF m 75 #[vi p0, vi p1, vi p2, vi p3, vd nu, ss, vd de, ss, vi (p3 &&& (3 : Int32)), vd v, ss, uu, uu, uu, uu, uu, uu] [])) := by
    have k284 : own_G p e below E0 s₁ (mkF m 27 #[vi p0, vi p1, vi p2, vi p3, vd nu, ss, vd de, ss, vi (p3 &&& (3 : Int32)), uu, uu, uu, uu, uu, uu, uu, uu] [(.int (p3 &&& (3 : Int32)))]) := by
      intro tQ kk
      refine k283 tQ ?_
      refine XS.iload X0.here hx rfl (hb hby at_25) rfl ?_
      exact kk
    clear k283
    by_cases c285 : (p3 &&& (3 : Int32)) = 0
    · skip
      have k286 : own_G p e below E0 s₁ (mkF m 75 #[vi p0, vi p1, vi p2, vi p3, vd nu, ss, vd de, ss, vi (p3 &&& (3 : Int32)), vd (FP.ddiv nu de), ss, uu, uu, uu, uu, uu, uu] []) := by
        intro tQ kk
        refine k284 tQ ?_
        refine XS.ifNo X0.here hx rfl (hb hby at_27) rfl (own_if_neN c285) ?_
        refine XS.dload X0.here hx rfl (hb hby at_30) rfl ?_
        refine XS.dload X0.here hx rfl (hb hby at_32) rfl ?_
        refine XS.ddivS X0.here hx rfl (hb hby at_34) rfl (own_v1 hnu hde).1 rfl ?_
        show Steps p.tables e below (s₁.setTop (mkF m 35 #[vi p0, vi p1, vi p2, vi p3, vd nu, ss, vd de, ss, vi (p3 &&& (3 : Int32)), uu, uu, uu, uu, uu, uu, uu, uu] [(.double (FP.ddiv nu de))])) tQ
        refine XS.dstore X0.here hx rfl (hb hby at_35) rfl (l' := #[vi p0, vi p1, vi p2, vi p3, vd nu, ss, vd de, ss, vi (p3 &&& (3 : Int32)), vd (FP.ddiv nu de), ss, uu, uu, uu, uu, uu, uu]) rfl ?_
        refine XS.goto X0.here hx rfl (pc0 := 37) (pc' := 75) rfl (hb hby at_37) (by decide) (by decide) ?_
        exact kk
      clear k284
      exact ⟨(FP.ddiv nu de), (own_v1 hnu hde), k286⟩
    · skip
      have k287 : own_G p e below E0 s₁ (mkF m 43 #[vi p0, vi p1, vi p2, vi p3, vd nu, ss, vd de, ss, vi (p3 &&& (3 : Int32)), uu, uu, uu, uu, uu, uu, uu, uu] [(.int (1 : Int32)), (.int (p3 &&& (3 : Int32)))]) := by
        intro tQ kk
        refine k284 tQ ?_
        refine XS.ifYes X0.here hx rfl (pc0 := 27) (pc' := 40) rfl (hb hby at_27) rfl (own_if_neY c285) (by decide) (by decide) ?_
        refine XS.iload X0.here hx rfl (hb hby at_40) rfl ?_
        refine XS.iconst X0.here hx rfl (hb hby at_42) ?_
        exact kk
      clear k284
      by_cases c288 : (p3 &&& (3 : Int32)) = (1 : Int32)
      · skip
        have k289 : own_G p e below E0 s₁ (mkF m 75 #[vi p0, vi p1, vi p2, vi p3, vd nu, ss, vd de, ss, vi (p3 &&& (3 : Int32)), vd (FP.dmul nu de), ss, uu, uu, uu, uu, uu, uu] []) := by
          intro tQ kk
          refine k287 tQ ?_
          refine XS.icmpNo X0.here hx rfl (hb hby at_43) rfl (own_ic_neN c288) ?_
          refine XS.dload X0.here hx rfl (hb hby at_46) rfl ?_
          refine XS.dload X0.here hx rfl (hb hby at_48) rfl ?_
          refine XS.dmulS X0.here hx rfl (hb hby at_50) rfl (own_v2 hnu hde).1 rfl ?_
          show Steps p.tables e below (s₁.setTop (mkF m 51 #[vi p0, vi p1, vi p2, vi p3, vd nu, ss, vd de, ss, vi (p3 &&& (3 : Int32)), uu, uu, uu, uu, uu, uu, uu, uu] [(.double (FP.dmul nu de))])) tQ
          refine XS.dstore X0.here hx rfl (hb hby at_51) rfl (l' := #[vi p0, vi p1, vi p2, vi p3, vd nu, ss, vd de, ss, vi (p3 &&& (3 : Int32)), vd (FP.dmul nu de), ss, uu, uu, uu, uu, uu, uu]) rfl ?_
          refine XS.goto X0.here hx rfl (pc0 := 53) (pc' := 75) rfl (hb hby at_53) (by decide) (by decide) ?_
          exact kk
        clear k287
        exact ⟨(FP.dmul nu de), (own_v2 hnu hde), k289⟩
      · skip
        have k290 : own_G p e below E0 s₁ (mkF m 59 #[vi p0, vi p1, vi p2, vi p3, vd nu, ss, vd de, ss, vi (p3 &&& (3 : Int32)), uu, uu, uu, uu, uu, uu, uu, uu] [(.int (2 : Int32)), (.int (p3 &&& (3 : Int32)))]) := by
          intro tQ kk
          refine k287 tQ ?_
          refine XS.icmpYes X0.here hx rfl (pc0 := 43) (pc' := 56) rfl (hb hby at_43) rfl (own_ic_neY c288) (by decide) (by decide) ?_
          refine XS.iload X0.here hx rfl (hb hby at_56) rfl ?_
          refine XS.iconst X0.here hx rfl (hb hby at_58) ?_
          exact kk
        clear k287
        by_cases c291 : (p3 &&& (3 : Int32)) = (2 : Int32)
        · skip
          have k292 : own_G p e below E0 s₁ (mkF m 62 #[vi p0, vi p1, vi p2, vi p3, vd nu, ss, vd de, ss, vi (p3 &&& (3 : Int32)), uu, uu, uu, uu, uu, uu, uu, uu] []) := by
            intro tQ kk
            refine k290 tQ ?_
            refine XS.icmpNo X0.here hx rfl (hb hby at_59) rfl (own_ic_neN c291) ?_
            exact kk
          clear k290
          have st293 := X0.ldc2DoubleC hx hown (mvT hZ (tw63 hw)) (g := (mkF m 62 #[vi p0, vi p1, vi p2, vi p3, vd nu, ss, vd de, ss, vi (p3 &&& (3 : Int32)), uu, uu, uu, uu, uu, uu, uu, uu] [])) rfl (hb hby at_62)
          have k294 : own_G p e below E0 s₁ (mkF m 65 #[vi p0, vi p1, vi p2, vi p3, vd nu, ss, vd de, ss, vi (p3 &&& (3 : Int32)), uu, uu, uu, uu, uu, uu, uu, uu] [(.double (9218868437227405311 : UInt64))]) := fun tQ kk => k292 tQ (st293 _ kk)
          clear k292 st293
          have k295 : own_G p e below E0 s₁ (mkF m 75 #[vi p0, vi p1, vi p2, vi p3, vd nu, ss, vd de, ss, vi (p3 &&& (3 : Int32)), vd (9218868437227405311 : UInt64), ss, uu, uu, uu, uu, uu, uu] []) := by
            intro tQ kk
            refine k294 tQ ?_
            refine XS.dstore X0.here hx rfl (hb hby at_65) rfl (l' := #[vi p0, vi p1, vi p2, vi p3, vd nu, ss, vd de, ss, vi (p3 &&& (3 : Int32)), vd (9218868437227405311 : UInt64), ss, uu, uu, uu, uu, uu, uu]) rfl ?_
            refine XS.goto X0.here hx rfl (pc0 := 67) (pc' := 75) rfl (hb hby at_67) (by decide) (by decide) ?_
            exact kk
          clear k294
          exact ⟨(9218868437227405311 : UInt64), (own_v3), k295⟩
        · skip
          have k296 : own_G p e below E0 s₁ (mkF m 70 #[vi p0, vi p1, vi p2, vi p3, vd nu, ss, vd de, ss, vi (p3 &&& (3 : Int32)), uu, uu, uu, uu, uu, uu, uu, uu] []) := by
            intro tQ kk
            refine k290 tQ ?_
            refine XS.icmpYes X0.here hx rfl (pc0 := 59) (pc' := 70) rfl (hb hby at_59) rfl (own_ic_neY c291) (by decide) (by decide) ?_
            exact kk
          clear k290
          have st297 := X0.ldc2DoubleC hx hown (mvT hZ (tw74 hw)) (g := (mkF m 70 #[vi p0, vi p1, vi p2, vi p3, vd nu, ss, vd de, ss, vi (p3 &&& (3 : Int32)), uu, uu, uu, uu, uu, uu, uu, uu] [])) rfl (hb hby at_70)
          have k298 : own_G p e below E0 s₁ (mkF m 73 #[vi p0, vi p1, vi p2, vi p3, vd nu, ss, vd de, ss, vi (p3 &&& (3 : Int32)), uu, uu, uu, uu, uu, uu, uu, uu] [(.double (1 : UInt64))]) := fun tQ kk => k296 tQ (st297 _ kk)
          clear k296 st297
          have k299 : own_G p e below E0 s₁ (mkF m 75 #[vi p0, vi p1, vi p2, vi p3, vd nu, ss, vd de, ss, vi (p3 &&& (3 : Int32)), vd (1 : UInt64), ss, uu, uu, uu, uu, uu, uu] []) := by
            intro tQ kk
            refine k298 tQ ?_
            refine XS.dstore X0.here hx rfl (hb hby at_73) rfl (l' := #[vi p0, vi p1, vi p2, vi p3, vd nu, ss, vd de, ss, vi (p3 &&& (3 : Int32)), vd (1 : UInt64), ss, uu, uu, uu, uu, uu, uu]) rfl ?_
            exact kk
          clear k298
          exact ⟨(1 : UInt64), (own_v4), k299⟩
  obtain ⟨v, hD302, k300⟩ := jn301
  have hV := hD302
  have k303 : own_G p e below E0 s₁ (mkF m 76 #[vi p0, vi p1, vi p2, vi p3, vd nu, ss, vd de, ss, vi (p3 &&& (3 : Int32)), vd v, ss, uu, uu, uu, uu, uu, uu] [(.int (1 : Int32))]) := by
    intro tQ kk
    refine k300 tQ ?_
    refine XS.iconst X0.here hx rfl (hb hby at_75) ?_
    exact kk
  clear k300
  obtain ⟨T304, h305, cA306, X307, e308, E309, A310, st311⟩ := newP (aty := .char) X0 hx hZ (tw1 hw) e0 (g := (mkF m 76 #[vi p0, vi p1, vi p2, vi p3, vd nu, ss, vd de, ss, vi (p3 &&& (3 : Int32)), vd v, ss, uu, uu, uu, uu, uu, uu] [(.int (1 : Int32))])) rfl (hb hby at_76) rfl (by decide) (cap := 1) (by decide) (by decide) (by decide) (by decide)
  obtain ⟨a312, g313⟩ : ∃ zA : Nat, zA = h0.size := ⟨_, rfl⟩
  rw [← g313] at A310 st311
  have ge314 : n0 ≤ a312 := own_ge_of Z0 g313
  have Z315 : n0 ≤ h305.size := Nat.le_trans Z0 E309.1
  have F316 : Sta Z h305 "java/lang/String" "COMPACT_STRINGS" "Z" (.int G1) := FS.ext E309
  clear FS
  have F317 : own_Le 0 h305 := LE0.ext E309
  have F318 : own_A Z h305 a312 .char [(.int (0 : Int32))] := own_A.new A310
  have k319 : own_G p e below E0 T304 (mkF m 78 #[vi p0, vi p1, vi p2, vi p3, vd nu, ss, vd de, ss, vi (p3 &&& (3 : Int32)), vd v, ss, uu, uu, uu, uu, uu, uu] [(.ref a312)]) := fun tQ kk => k303 tQ (st311 _ kk)
  clear k303 st311
  have k320 : own_G p e below E0 T304 (mkF m 89 #[vi p0, vi p1, vi p2, vi p3, vd nu, ss, vd de, ss, vi (p3 &&& (3 : Int32)), vd v, ss, vr a312, uu, uu, uu, uu, uu] [(.int ((p2 &&& (255 : Int32)).toUInt32.toUInt16.toUInt32.toInt32)), (.int (0 : Int32)), (.ref a312)]) := by
    intro tQ kk
    refine k319 tQ ?_
    refine XS.astore X307.here hx rfl (hb hby at_78) rfl rfl (l' := #[vi p0, vi p1, vi p2, vi p3, vd nu, ss, vd de, ss, vi (p3 &&& (3 : Int32)), vd v, ss, vr a312, uu, uu, uu, uu, uu]) rfl ?_
    refine XS.aload X307.here hx rfl (hb hby at_80) rfl rfl ?_
    refine XS.iconst X307.here hx rfl (hb hby at_82) ?_
    refine XS.iloadN X307.here hx rfl (hb hby at_83) rfl ?_
    show Steps p.tables e below (T304.setTop (mkF m 84 #[vi p0, vi p1, vi p2, vi p3, vd nu, ss, vd de, ss, vi (p3 &&& (3 : Int32)), vd v, ss, vr a312, uu, uu, uu, uu, uu] [(.int p2), (.int (0 : Int32)), (.ref a312)])) tQ
    refine XS.sipush X307.here hx rfl (hb hby at_84) ?_
    refine XS.iand X307.here hx rfl (hb hby at_87) rfl ?_
    refine XT.i2c X307.here hx rfl (hb hby at_88) rfl ?_
    exact kk
  clear k319
  obtain ⟨T321, h322, X323, e324, W325, F326, st327⟩ := own_A.cst X307 hx hZ e308 F318 (j := (0 : Int32)) (by decide) rfl (g := (mkF m 89 #[vi p0, vi p1, vi p2, vi p3, vd nu, ss, vd de, ss, vi (p3 &&& (3 : Int32)), vd v, ss, vr a312, uu, uu, uu, uu, uu] [(.int ((p2 &&& (255 : Int32)).toUInt32.toUInt16.toUInt32.toInt32)), (.int (0 : Int32)), (.ref a312)])) rfl rfl (hb hby at_89)
  have N328 := Fr.snoc X323 N0 ge314
  have k329 : own_G p e below E0 T321 (mkF m 90 #[vi p0, vi p1, vi p2, vi p3, vd nu, ss, vd de, ss, vi (p3 &&& (3 : Int32)), vd v, ss, vr a312, uu, uu, uu, uu, uu] []) := fun tQ kk => k320 tQ (st327 _ kk)
  clear k320 st327
  have F330 : Sta Z h322 "java/lang/String" "COMPACT_STRINGS" "Z" (.int G1) := F316.wr W325
  clear F316
  have F331 : own_Le 0 h322 := F317.wr W325
  clear F317
  have Z332 : n0 ≤ h322.size := by rw [W325.size]; exact Z315
  clear Z315
  have F333 : own_A Z h322 a312 .char [(.int (nar .char ((p2 &&& (255 : Int32)).toUInt32.toUInt16.toUInt32.toInt32)))] := F326
  obtain ⟨T334, h335, X336, e337, E338, A339, D340, -, st341⟩ := newO X323 hx hZ hown (tw2 hw) (tw3 hw) (tw4 hw) e324 (g := (mkF m 90 #[vi p0, vi p1, vi p2, vi p3, vd nu, ss, vd de, ss, vi (p3 &&& (3 : Int32)), vd v, ss, vr a312, uu, uu, uu, uu, uu] [])) rfl (hb hby at_90) (by decide) (by decide)
  obtain ⟨a342, g343⟩ : ∃ zA : Nat, zA = h322.size := ⟨_, rfl⟩
  rw [← g343] at A339 D340 st341
  have n344 : a312 ≠ a342 := own_lt_ne F333.lt g343
  have n345 : a342 ≠ a312 := fun q => n344 q.symm
  have ge346 : n0 ≤ a342 := own_ge_of Z332 g343
  have Z347 : n0 ≤ h335.size := Nat.le_trans Z332 E338.1
  clear Z332
  have F348 : Sta Z h335 "java/lang/String" "COMPACT_STRINGS" "Z" (.int G1) := F330.ext E338
  clear F330
  have F349 : own_Le 0 h335 := F331.ext E338
  clear F331
  have F350 : own_A Z h335 a312 .char [(.int (nar .char ((p2 &&& (255 : Int32)).toUInt32.toUInt16.toUInt32.toInt32)))] := F333.ext E338
  clear F333
  have F351 : Fld Z h335 a342 "java/lang/String" "coder" "B" (.int (0 : Int32)) := (D340 (Or.inr (tw28 hw)) (ty := .byte) (by decide))
  have F352 : Fld Z h335 a342 "java/lang/String" "value" "[B" .null := (D340 (Or.inr (tw30 hw)) (ty := (.array .byte)) (by decide))
  have k353 : own_G p e below E0 T334 (mkF m 93 #[vi p0, vi p1, vi p2, vi p3, vd nu, ss, vd de, ss, vi (p3 &&& (3 : Int32)), vd v, ss, vr a312, uu, uu, uu, uu, uu] [(.ref a342)]) := fun tQ kk => k329 tQ (st341 _ kk)
  clear k329 st341
  have k354 : own_G p e below E0 T334 (mkF m 96 #[vi p0, vi p1, vi p2, vi p3, vd nu, ss, vd de, ss, vi (p3 &&& (3 : Int32)), vd v, ss, vr a312, uu, uu, uu, uu, uu] [(.ref a312), (.ref a342), (.ref a342)]) := by
    intro tQ kk
    refine k353 tQ ?_
    refine XS.dup X336.here hx rfl (hb hby at_93) rfl rfl ?_
    refine XS.aload X336.here hx rfl (hb hby at_94) rfl rfl ?_
    exact kk
  clear k353
  obtain ⟨kA355, FA356⟩ := own_A.arv F350 (1 : Int32) rfl (by decide) (.int 0) (by intro v hv; simp only [List.mem_cons, List.not_mem_nil, or_false] at hv; rcases hv with rfl <;> exact fits_nar_char _)
  have hl357 : ∀ c ∈ ([(nar .char ((p2 &&& (255 : Int32)).toUInt32.toUInt16.toUInt32.toInt32))] : List Int32), ¬ c < 0 ∧ ¬ (255 : Int32) < c := by
    intro c hc; simp only [List.mem_cons, List.not_mem_nil, or_false] at hc
    rcases hc with rfl
    · exact (own_lat p2)
  obtain ⟨_, _, ⟨T358, L359, kc360, nc361⟩, -, X362, ⟨Lc363, hQ364, l365, y366, z367⟩, st368⟩ := X336.specialBack hx (y := mn15) rfl hown (mvT hZ (tw5 hw)) (mvT hZ (tw6 hw)) (mvT hZ (tw7 hw)) (by decide) (StrChars.Road.backV (W := 1) hZ (own_hws hw) (kI := 4) (tw3 hw) (cs := [(nar .char ((p2 &&& (255 : Int32)).toUInt32.toUInt16.toUInt32.toInt32))]) (bs := List.map (fun c => c.toInt8.toInt32) [(nar .char ((p2 &&& (255 : Int32)).toUInt32.toUInt16.toUInt32.toInt32))]) (n := 1) ge346 Z347 A339 F352 F351 FA356 F348 hG rfl rfl (by decide) (by decide) hl357 rfl (by decide) (by decide)) (g := (mkF m 96 #[vi p0, vi p1, vi p2, vi p3, vd nu, ss, vd de, ss, vi (p3 &&& (3 : Int32)), vd v, ss, vr a312, uu, uu, uu, uu, uu] [(.ref a312), (.ref a342), (.ref a342)])) rfl (by rw [hml]; rfl) (Steps.refl _) (a := a342) (argsL := [(.ref a312)]) (rest := [(.ref a342)]) (lenOf pd_16 rfl) rfl (by show 2 * 0 + _ ≤ _; exact Nat.le_of_eq rfl) (hb hby at_96) (fun _ _ => ⟨rfl, e337, (by decide : 2 + 1 ≤ _), (by decide : 5 + 1 ≤ _)⟩)
  dsimp only [Pt.U, Pt.locs, Pt.cells, Pt.slots] at X362 l365 y366 z367 st368 hQ364
  subst y366 z367
  obtain ⟨rfl, N369, K370, -⟩ := hQ364
  have N371 : Fr n0 L359 := by rw [l365]; exact Fr.app N328 N369
  clear l365 N369
  have Z372 : n0 ≤ T358.heap.size := Nat.le_trans Z347 K370.1
  clear Z347
  have F373 : own_Le 0 T358.heap := F349.keep K370
  clear F349
  have F374 : own_A Z T358.heap a312 .char [(.int (nar .char ((p2 &&& (255 : Int32)).toUInt32.toUInt16.toUInt32.toInt32)))] := F350.keep K370 (ninS n344 nin0)
  clear F350
  have F375 : xa17 Z T358.heap a342 := A339.keep K370
  clear A339
  clear F351
  clear F352
  have k376 : own_G p e below E0 T358 (mkF m 99 #[vi p0, vi p1, vi p2, vi p3, vd nu, ss, vd de, ss, vi (p3 &&& (3 : Int32)), vd v, ss, vr a312, uu, uu, uu, uu, uu] [(.ref a342)]) := fun tQ kk => k354 tQ (st368.trans kk)
  clear k354 st368
  have k377 : own_G p e below E0 T358 (mkF m 101 #[vi p0, vi p1, vi p2, vi p3, vd nu, ss, vd de, ss, vi (p3 &&& (3 : Int32)), vd v, ss, vr a312, vr a342, uu, uu, uu, uu] []) := by
    intro tQ kk
    refine k376 tQ ?_
    refine XS.astore X362.here hx rfl (hb hby at_99) rfl rfl (l' := #[vi p0, vi p1, vi p2, vi p3, vd nu, ss, vd de, ss, vi (p3 &&& (3 : Int32)), vd v, ss, vr a312, vr a342, uu, uu, uu, uu]) rfl ?_
    exact kk
  clear k376
  obtain ⟨_, _, ⟨T378, L379, kc380, nc381⟩, -, X382, S389, G390, ⟨Lc383, hQ384, l385, y386, z387⟩, st388⟩ := callSS X362 hx (y := mn8) hown (mvT hZ (tw31 hw)) (mvT hZ (tw32 hw)) (mvT hZ (tw33 hw)) (mvT hZ (tw34 hw)) (by decide) (backOfS (W := 0) (rmBm l Z a0 hw []  T358.heap n0 Z372 ) hZ (tw34 hw) (tw33 hw) (by decide) (by decide)) (g := (mkF m 101 #[vi p0, vi p1, vi p2, vi p3, vd nu, ss, vd de, ss, vi (p3 &&& (3 : Int32)), vd v, ss, vr a312, vr a342, uu, uu, uu, uu] [])) rfl (by rw [hml]; rfl) (argsL := []) (rest := []) (lenOf pd_18 rfl) rfl (by show 2 * 0 + _ ≤ _; exact Nat.le_of_eq rfl) (hb hby at_101) (fun _ _ => ⟨rfl, rfl, (by decide : 3 + 5 ≤ _), (by decide : 6 + 122 ≤ _)⟩)
  dsimp only [Pt.U, Pt.locs, Pt.cells, Pt.slots] at X382 l385 y386 z387 st388 hQ384 S389 G390
  subst y386 z387
  obtain ⟨X391, S392, hZ, hown⟩ := rebS S0 F373 X382 S389 G390 hZ hown
  clear X382 S389 G390
  obtain ⟨r396, rfl, N393, K397, g398, g399, g400, g401, g402, nw403⟩ := hQ384
  have N404 : Fr n0 L379 := by rw [l385]; exact Fr.app N371 N393
  clear l385 N393
  have ge405 : n0 ≤ r396 := Nat.le_trans Z372 nw403
  have n406 : a312 ≠ r396 := own_lt_ne2 F374.lt nw403
  have n407 : a342 ≠ r396 := own_lt_ne2 F375.lt nw403
  have Z408 : n0 ≤ T378.heap.size := Nat.le_trans Z372 K397.1
  clear Z372
  have F409 : own_A Z T378.heap a312 .char [(.int (nar .char ((p2 &&& (255 : Int32)).toUInt32.toUInt16.toUInt32.toInt32)))] := F374.keep K397 nin0
  clear F374
  have F410 : xa17 Z T378.heap a342 := F375.keep K397
  clear F375
  have F411 : own_Le T378.heap.size T378.heap := Nat.le_refl _
  have k412 : own_G p e below E0 T378 (mkF m 104 #[vi p0, vi p1, vi p2, vi p3, vd nu, ss, vd de, ss, vi (p3 &&& (3 : Int32)), vd v, ss, vr a312, vr a342, uu, uu, uu, uu] [(.ref r396)]) := fun tQ kk => k377 tQ (st388.trans kk)
  clear k377 st388
  have k413 : own_G p e below E0 T378 (mkF m 111 #[vi p0, vi p1, vi p2, vi p3, vd nu, ss, vd de, ss, vi (p3 &&& (3 : Int32)), vd v, ss, vr a312, vr a342, vr r396, uu, uu, uu] [(.int ((p3 >>> ((2 : Int32) &&& 31)) &&& (1 : Int32)))]) := by
    intro tQ kk
    refine k412 tQ ?_
    refine XS.astore X391.here hx rfl (hb hby at_104) rfl rfl (l' := #[vi p0, vi p1, vi p2, vi p3, vd nu, ss, vd de, ss, vi (p3 &&& (3 : Int32)), vd v, ss, vr a312, vr a342, vr r396, uu, uu, uu]) rfl ?_
    refine XS.iloadN X391.here hx rfl (hb hby at_106) rfl ?_
    refine XS.iconst X391.here hx rfl (hb hby at_107) ?_
    refine XT.ishr X391.here hx rfl (hb hby at_108) rfl ?_
    show Steps p.tables e below (T378.setTop (mkF m 109 #[vi p0, vi p1, vi p2, vi p3, vd nu, ss, vd de, ss, vi (p3 &&& (3 : Int32)), vd v, ss, vr a312, vr a342, vr r396, uu, uu, uu] [(.int (p3 >>> ((2 : Int32) &&& 31)))])) tQ
    refine XS.iconst X391.here hx rfl (hb hby at_109) ?_
    refine XS.iand X391.here hx rfl (hb hby at_110) rfl ?_
    exact kk
  clear k412
  by_cases c414 : ((p3 >>> ((2 : Int32) &&& 31)) &&& (1 : Int32)) = 0
  · skip
    have k415 : own_G p e below E0 T378 (mkF m 146 #[vi p0, vi p1, vi p2, vi p3, vd nu, ss, vd de, ss, vi (p3 &&& (3 : Int32)), vd v, ss, vr a312, vr a342, vr r396, vi (0 : Int32), uu, uu] [(.double v), (.ref a342), (.ref r396)]) := by
      intro tQ kk
      refine k413 tQ ?_
      refine XS.ifYes X391.here hx rfl (pc0 := 111) (pc' := 118) rfl (hb hby at_111) rfl (own_if_eqY c414) (by decide) (by decide) ?_
      refine XS.iconst X391.here hx rfl (hb hby at_118) ?_
      refine XS.istore X391.here hx rfl (hb hby at_119) rfl (l' := #[vi p0, vi p1, vi p2, vi p3, vd nu, ss, vd de, ss, vi (p3 &&& (3 : Int32)), vd v, ss, vr a312, vr a342, vr r396, vi (0 : Int32), uu, uu]) rfl ?_
      refine XS.iload X391.here hx rfl (hb hby at_121) rfl ?_
      show Steps p.tables e below (T378.setTop (mkF m 123 #[vi p0, vi p1, vi p2, vi p3, vd nu, ss, vd de, ss, vi (p3 &&& (3 : Int32)), vd v, ss, vr a312, vr a342, vr r396, vi (0 : Int32), uu, uu] [(.int (0 : Int32))])) tQ
      refine XS.ifYes X391.here hx rfl (pc0 := 123) (pc' := 140) rfl (hb hby at_123) rfl (own_if_eqY (by decide)) (by decide) (by decide) ?_
      refine XS.aload X391.here hx rfl (hb hby at_140) rfl rfl ?_
      refine XS.aload X391.here hx rfl (hb hby at_142) rfl rfl ?_
      refine XS.dload X391.here hx rfl (hb hby at_144) rfl ?_
      exact kk
    clear k413
    obtain ⟨cq427, kq428, qa429, qb430, qc431⟩ := isOf hZ rfl g398
    obtain ⟨_, _, ⟨T416, L417, kc418, nc419⟩, -, X420, ⟨Lc421, hQ422, l423, y424, z425⟩, st426⟩ := X391.virtualBack hx (y := mn11) (z := mn11) hown (mvT hZ (tw58 hw)) (mvT hZ (tw59 hw)) (notFace_of_selects (args := #[]) (mvT hZ (tw61 hw))) (mvT hZ (tw61 hw)) (mvT hZ (tw60 hw)) (by decide) (backOf (W := 0) (rmCg l Z a0 hw [] r396 a342 v T378.heap n0 Z408 g398 g399 g400 g401 g402 hV.1 (own_V0 hV) (Int.not_lt.mpr hV.2.2)) hZ (tw62 hw) (tw33 hw) (by decide) (by decide)) qa429 qc431 (g := (mkF m 146 #[vi p0, vi p1, vi p2, vi p3, vd nu, ss, vd de, ss, vi (p3 &&& (3 : Int32)), vd v, ss, vr a312, vr a342, vr r396, vi (0 : Int32), uu, uu] [(.double v), (.ref a342), (.ref r396)])) rfl (by rw [hml]; rfl) (Steps.refl _) (argsL := [(.ref a342), (.double v)]) (rest := []) (lenOf pd_14 rfl) rfl (by show 2 * 0 + _ ≤ _; exact Nat.le_of_eq rfl) (hb hby at_146) (fun _ _ => ⟨rfl, rfl, (by decide : 8 + 0 ≤ _), (by decide : 128 + 0 ≤ _)⟩)
    dsimp only [Pt.U, Pt.locs, Pt.cells, Pt.slots] at X420 l423 y424 z425 st426 hQ422
    subst y424 z425
    obtain ⟨rfl, N432, e433⟩ := hQ422
    have N435 : Fr n0 L417 := by rw [l423]; exact Fr.app N404 N432
    clear l423 N432
    have k436 : own_G p e below E0 T416 (mkF m 149 #[vi p0, vi p1, vi p2, vi p3, vd nu, ss, vd de, ss, vi (p3 &&& (3 : Int32)), vd v, ss, vr a312, vr a342, vr r396, vi (0 : Int32), uu, uu] [(.double v)]) := fun tQ kk => k415 tQ (st426.trans kk)
    clear k415 st426
    have k437 : own_G p e below E0 T416 (mkF m 164 #[vi p0, vi p1, vi p2, vi p3, vd nu, ss, vd de, ss, vi (p3 &&& (3 : Int32)), vd v, ss, vr a312, vr a342, vr r396, vi (0 : Int32), vd v, ss] [(.int (1 : Int32))]) := by
      intro tQ kk
      refine k436 tQ ?_
      refine XS.dstore X420.here hx rfl (hb hby at_149) rfl (l' := #[vi p0, vi p1, vi p2, vi p3, vd nu, ss, vd de, ss, vi (p3 &&& (3 : Int32)), vd v, ss, vr a312, vr a342, vr r396, vi (0 : Int32), vd v, ss]) rfl ?_
      refine XS.dload X420.here hx rfl (hb hby at_151) rfl ?_
      refine XS.dload X420.here hx rfl (hb hby at_153) rfl ?_
      refine XS.dcmpS (v := (0 : Int32)) X420.here hx rfl (hb hby at_155) rfl (own_eqz .l hV.1 hV.1 rfl) ?_
      show Steps p.tables e below (T416.setTop (mkF m 156 #[vi p0, vi p1, vi p2, vi p3, vd nu, ss, vd de, ss, vi (p3 &&& (3 : Int32)), vd v, ss, vr a312, vr a342, vr r396, vi (0 : Int32), vd v, ss] [(.int (0 : Int32))])) tQ
      refine XS.ifNo X420.here hx rfl (hb hby at_156) rfl (own_if_neN (by decide)) ?_
      refine XS.iconst X420.here hx rfl (hb hby at_159) ?_
      refine XS.goto X420.here hx rfl (pc0 := 160) (pc' := 164) rfl (hb hby at_160) (by decide) (by decide) ?_
      exact kk
    clear k436
    obtain ⟨fs, hr, hrun, hended, hRW⟩ := X420.leaveW S392 (Nat.le_trans F411 (Nat.le_of_eq (congrArg Array.size e433.symm))) (v := some (.int (1 : Int32))) (fun h => by rw [Bd.returns] at h; cases h)
    have hrun0 := k437 _ (retOut X420 hx Bd.returns (t := .boolean) rfl (Or.inl ⟨rfl, Or.inr (Or.inl rfl), _, rfl⟩) (hb hby at_164) hr)
    subst hE0
    refine ⟨_, _, hrun0, hrun, hended, _, _, rfl, ?_, ⟨_, rfl⟩, hRW.2.1, hRW.2.2.1, hRW.2.2.2.mono (by decide) (by decide)⟩
    show Qrm0 Z p0 p1 p2 p3 G1 h0 n0 _ T416.heap _
    rw [e433]
    exact ⟨rfl, N435⟩
  · skip
    have k438 : own_G p e below E0 T378 (mkF m 132 #[vi p0, vi p1, vi p2, vi p3, vd nu, ss, vd de, ss, vi (p3 &&& (3 : Int32)), vd v, ss, vr a312, vr a342, vr r396, vi (1 : Int32), uu, uu] [(.double v), (.ref a342), (.ref r396)]) := by
      intro tQ kk
      refine k413 tQ ?_
      refine XS.ifNo X391.here hx rfl (hb hby at_111) rfl (own_if_eqN c414) ?_
      refine XS.iconst X391.here hx rfl (hb hby at_114) ?_
      refine XS.goto X391.here hx rfl (pc0 := 115) (pc' := 119) rfl (hb hby at_115) (by decide) (by decide) ?_
      refine XS.istore X391.here hx rfl (hb hby at_119) rfl (l' := #[vi p0, vi p1, vi p2, vi p3, vd nu, ss, vd de, ss, vi (p3 &&& (3 : Int32)), vd v, ss, vr a312, vr a342, vr r396, vi (1 : Int32), uu, uu]) rfl ?_
      show Steps p.tables e below (T378.setTop (mkF m 121 #[vi p0, vi p1, vi p2, vi p3, vd nu, ss, vd de, ss, vi (p3 &&& (3 : Int32)), vd v, ss, vr a312, vr a342, vr r396, vi (1 : Int32), uu, uu] [])) tQ
      refine XS.iload X391.here hx rfl (hb hby at_121) rfl ?_
      refine XS.ifNo X391.here hx rfl (hb hby at_123) rfl (own_if_eqN (by decide)) ?_
      refine XS.aload X391.here hx rfl (hb hby at_126) rfl rfl ?_
      refine XS.aload X391.here hx rfl (hb hby at_128) rfl rfl ?_
      show Steps p.tables e below (T378.setTop (mkF m 130 #[vi p0, vi p1, vi p2, vi p3, vd nu, ss, vd de, ss, vi (p3 &&& (3 : Int32)), vd v, ss, vr a312, vr a342, vr r396, vi (1 : Int32), uu, uu] [(.ref a342), (.ref r396)])) tQ
      refine XS.dload X391.here hx rfl (hb hby at_130) rfl ?_
      exact kk
    clear k413
    obtain ⟨cq450, kq451, qa452, qb453, qc454⟩ := isOf hZ rfl g398
    obtain ⟨_, _, ⟨T439, L440, kc441, nc442⟩, -, X443, ⟨Lc444, hQ445, l446, y447, z448⟩, st449⟩ := X391.virtualBack hx (y := mn12) (z := mn12) hown (mvT hZ (tw64 hw)) (mvT hZ (tw65 hw)) (notFace_of_selects (args := #[]) (mvT hZ (tw67 hw))) (mvT hZ (tw67 hw)) (mvT hZ (tw66 hw)) (by decide) (backOf (W := 0) (rmCk l Z a0 hw [] r396 a342 v T378.heap n0 Z408 g398 g399 g400 g401 g402 hV.1 (own_V0 hV) (Int.not_lt.mpr hV.2.2)) hZ (tw68 hw) (tw33 hw) (by decide) (by decide)) qa452 qc454 (g := (mkF m 132 #[vi p0, vi p1, vi p2, vi p3, vd nu, ss, vd de, ss, vi (p3 &&& (3 : Int32)), vd v, ss, vr a312, vr a342, vr r396, vi (1 : Int32), uu, uu] [(.double v), (.ref a342), (.ref r396)])) rfl (by rw [hml]; rfl) (Steps.refl _) (argsL := [(.ref a342), (.double v)]) (rest := []) (lenOf pd_14 rfl) rfl (by show 2 * 0 + _ ≤ _; exact Nat.le_of_eq rfl) (hb hby at_132) (fun _ _ => ⟨rfl, rfl, (by decide : 8 + 0 ≤ _), (by decide : 128 + 0 ≤ _)⟩)
    dsimp only [Pt.U, Pt.locs, Pt.cells, Pt.slots] at X443 l446 y447 z448 st449 hQ445
    subst y447 z448
    obtain ⟨rfl, N455, e456⟩ := hQ445
    have N458 : Fr n0 L440 := by rw [l446]; exact Fr.app N404 N455
    clear l446 N455
    have k459 : own_G p e below E0 T439 (mkF m 135 #[vi p0, vi p1, vi p2, vi p3, vd nu, ss, vd de, ss, vi (p3 &&& (3 : Int32)), vd v, ss, vr a312, vr a342, vr r396, vi (1 : Int32), uu, uu] [(.double v)]) := fun tQ kk => k438 tQ (st449.trans kk)
    clear k438 st449
    have k460 : own_G p e below E0 T439 (mkF m 164 #[vi p0, vi p1, vi p2, vi p3, vd nu, ss, vd de, ss, vi (p3 &&& (3 : Int32)), vd v, ss, vr a312, vr a342, vr r396, vi (1 : Int32), vd v, ss] [(.int (1 : Int32))]) := by
      intro tQ kk
      refine k459 tQ ?_
      refine XS.dstore X443.here hx rfl (hb hby at_135) rfl (l' := #[vi p0, vi p1, vi p2, vi p3, vd nu, ss, vd de, ss, vi (p3 &&& (3 : Int32)), vd v, ss, vr a312, vr a342, vr r396, vi (1 : Int32), vd v, ss]) rfl ?_
      refine XS.goto X443.here hx rfl (pc0 := 137) (pc' := 151) rfl (hb hby at_137) (by decide) (by decide) ?_
      refine XS.dload X443.here hx rfl (hb hby at_151) rfl ?_
      refine XS.dload X443.here hx rfl (hb hby at_153) rfl ?_
      show Steps p.tables e below (T439.setTop (mkF m 155 #[vi p0, vi p1, vi p2, vi p3, vd nu, ss, vd de, ss, vi (p3 &&& (3 : Int32)), vd v, ss, vr a312, vr a342, vr r396, vi (1 : Int32), vd v, ss] [(.double v), (.double v)])) tQ
      refine XS.dcmpS (v := (0 : Int32)) X443.here hx rfl (hb hby at_155) rfl (own_eqz .l hV.1 hV.1 rfl) ?_
      refine XS.ifNo X443.here hx rfl (hb hby at_156) rfl (own_if_neN (by decide)) ?_
      refine XS.iconst X443.here hx rfl (hb hby at_159) ?_
      refine XS.goto X443.here hx rfl (pc0 := 160) (pc' := 164) rfl (hb hby at_160) (by decide) (by decide) ?_
      exact kk
    clear k459
    obtain ⟨fs, hr, hrun, hended, hRW⟩ := X443.leaveW S392 (Nat.le_trans F411 (Nat.le_of_eq (congrArg Array.size e456.symm))) (v := some (.int (1 : Int32))) (fun h => by rw [Bd.returns] at h; cases h)
    have hrun0 := k460 _ (retOut X443 hx Bd.returns (t := .boolean) rfl (Or.inl ⟨rfl, Or.inr (Or.inl rfl), _, rfl⟩) (hb hby at_164) hr)
    subst hE0
    refine ⟨_, _, hrun0, hrun, hended, _, _, rfl, ?_, ⟨_, rfl⟩, hRW.2.1, hRW.2.2.1, hRW.2.2.2.mono (by decide) (by decide)⟩
    show Qrm0 Z p0 p1 p2 p3 G1 h0 n0 _ T439.heap _
    rw [e456]
    exact ⟨rfl, N458⟩
set_option maxRecDepth 65536 in
set_option maxHeartbeats 40000000 in
theorem comes_1 {Post : Tables → Env → Array Value → State → Outcome → State → Prop} (hpost : ∀ tb e args s v u, (limb_1_1.after args s (.returned v) u = true ∧ limb_1_2.after args s (.returned v) u = true ∧ True) → ReturnedEndW s (.returned v) u (Jvm.fieldLocs frame_1_writes args s ++ Jvm.arrayLocs frame_1_arrays args s ++ Jvm.staticLocs frame_1_statics s) 24 2176 → Post tb e args s (.returned v) u) :
    ArmFor flags0 classFile x code maxLocals ret World_1 tables_1 room_1 Calls_1 rest_1 Pre_1 Post := by
  intro l hfl _ _ p e ha hc hk s m args below hf hA hF happ hP
  obtain ⟨hcalls, hrest, hpre⟩ := hP
  obtain ⟨-, -, -, hnamed, -, -, -, hat⟩ := (Spec.applies_iff hf).mp happ
  obtain ⟨hg, hn⟩ := and_e (Cond.before_iff.mp (show (Jvm.Cond.and given_1 narrow_1).before args s = true from hpre))
  obtain ⟨hct, hr0⟩ := and_e hg
  obtain ⟨ha0, hr1⟩ := and_e hr0
  obtain ⟨ha1, hr2⟩ := and_e hr1
  obtain ⟨ha2, hr3⟩ := and_e hr2
  obtain ⟨w0, w1, w2, w3, rfl⟩ : ∃ w0 w1 w2 w3 : Value, args = #[w0, w1, w2, w3] := by
    have hs : args.size = 4 := by simpa [Cond.value, given_1] using hct
    obtain ⟨L⟩ := args
    match L, hs with
    | [w0, w1, w2, w3], _ => exact ⟨w0, w1, w2, w3, rfl⟩
  have hw := fun d (hd : d ∈ tables_1) => atoms_spec (ws := Jvm.Cond.code x code maxLocals ret :: tables_1) hat d (List.mem_cons_of_mem _ hd)
  obtain ⟨hsets, hown0⟩ := atoms_of _ (rest_1_c_eq ▸ (show rest_1_c.before _ s = true from hrest))
  have hfit : Fit s := fun {y c} hc i hi => by
    obtain ⟨ha, rfl⟩ := Array.getElem?_eq_some_iff.mp hc
    have q := List.all_eq_true.mp ((Array.all_eq_true_iff_forall_mem.mp hF) _ (Array.getElem_mem ha)) i (List.mem_range.mpr hi)
    simpa [Array.getElem?_eq_getElem hi] using q
  obtain ⟨i0, ev0⟩ := is_v ha0
  obtain rfl : w0 = (.int i0) := Option.some.inj ev0
  obtain ⟨i1, ev1⟩ := is_v ha1
  obtain rfl : w1 = (.int i1) := Option.some.inj ev1
  obtain ⟨i2, ev2⟩ := is_v ha2
  obtain rfl : w2 = (.int i2) := Option.some.inj ev2
  obtain ⟨i3, ev3⟩ := is_v hr3
  obtain rfl : w3 = (.int i3) := Option.some.inj ev3
  have nC := not_v (Cond.before_iff.mp (hsets _ (List.mem_of_getElem? (i := 2) rfl)))
  obtain ⟨iC, eC⟩ := is_v (Cond.before_iff.mp (hsets _ (List.mem_of_getElem? (i := 1) rfl)))
  have SC : Sta s s.heap "java/lang/String" "COMPACT_STRINGS" "Z" (.int iC) := Sta.start eC (Or.inl (hsets _ (List.mem_of_getElem? (i := 0) rfl)))
  have cC : ¬ (iC = (0 : Int32)) := gotF (Cond.eq_ints eC (Term.int_eval (0))) nC
  obtain ⟨n, o, h1, h2, h3, _, L, rfl, ⟨rfl, N⟩, hq⟩ := rm0 l s _ hw tables_1 i0 i1 i2 i3 iC s.heap s.heap.size (Nat.le_refl _) SC cC p e ha hc hk s m _ below hf ((Spec.applies_iff_loose hf).mp happ).1 ⟨rfl, State.Warmed39.refl s, rfl⟩ trivial
  refine ⟨n, _, h1, h2, h3, hpost _ _ _ _ _ _ ⟨Cond.after_iff.mpr rfl, Cond.after_iff.mpr (eq_i res_at (Term.int_eval (1)) rfl), trivial⟩ ⟨hq.1, hq.2.1, hq.2.2.1, (hq.2.2.2.sift fun y hy => Or.inr (N y hy)).mono (by decide) (by decide)⟩⟩
theorem main_1_1 : Claimed_1_1 := comes_1 fun _ _ _ _ _ _ h hF => ⟨h.1, hF⟩
theorem main_1_2 : Claimed_1_2 := comes_1 fun _ _ _ _ _ _ h hF => ⟨h.2.1, hF⟩
end Jvm.Pilot.@@N@@
namespace Jvm.Pilot.@@N@@
open Jvm Jvm.ClassFile Sem Op Lib Jvm.Free Jvm.Stand Jvm.Pilot.@@N@@.Jvm.D
/-! MADE BY PROGRAM (witnessworld.py) out of the Statement's table words and the real class files: 20 classes; the members and pool entries that the words name. The judged class is class 1, her method 1. -/
namespace start1
open Jvm.ClassFile
def u (s : String) : CpInfo := .utf8 (stringToUtf16 s)
/-- a pool by its gaps: so many unusable entries, then the entry; so many at the end -/
def gap : Nat → List CpInfo → List CpInfo
  | 0, r => r
  | n + 1, r => .unusable :: gap n r
def poolList (es : List (Nat × CpInfo)) (last : Nat) : List CpInfo := es.foldr (fun e r => gap e.1 (e.2 :: r)) (gap last [])
def pool (es : List (Nat × CpInfo)) (last : Nat) : Array CpInfo := ⟨poolList es last⟩
def fileOf (pool : Array CpInfo) (this : Nat) (attrs : Array Attribute := #[]) (ms : Array MethodInfo := #[]) (fl : Nat := 33) (sup : Nat := 0) (ifs : Array Nat := #[]) (fds : Array FieldInfo := #[]) : ClassFile where
  minorVersion := 0
  majorVersion := 65
  constantPool := pool
  accessFlags := fl
  thisClass := this
  superClass := sup
  interfaces := ifs
  fields := fds
  methods := ms
  attributes := attrs
def plain (name : String) (sup : Option ClassId) : Class where
  name := name
  kind := .ordinary
  loader := none
  accessFlags := 33
  super := sup
  interfaces := #[]
  cf := none
  fields := #[]
  methods := #[]
  instanceTypes := #[]
  staticTypes := #[]
  resolved := #[]
  callSites := []
  init := .initialized
  statics := none
  mirror := none

def pool0 : Array CpInfo := pool [(5, u "<init>"), (0, u "()V"), (1, .class_ 10), (1, u "java/lang/Object")] 113

def k0c0 : Code := { maxStack := 0, maxLocals := 1, code := object_method_1_code, exceptionTable := #[], attributes := #[] }
def k0m0 : Method := { name := "<init>", desc := "()V", sig := { parameters := [], returnType := none }, accessFlags := 1, code := some k0c0 }
/-- java/lang/Object -/
def k0 : Class := { plain "java/lang/Object" none with
  accessFlags := 33
  interfaces := #[]
  cf := some (fileOf pool0 8 #[] #[{ accessFlags := 1, nameIndex := 5, descriptorIndex := 6, attributes := #[] }] 33 0 #[] #[])
  fields := #[]
  methods := #[k0m0]
  instanceTypes := #[]
  staticTypes := #[]
  resolved := Array.replicate 124 none
  statics := none }

def pool1 : Array CpInfo := pool [(2, .class_ 4), (1, u "java/lang/Object"), (0, u "<init>"), (0, u "()V"), (0, .integer 2147483647), (2, .double 9218868437227405311), (1, .double 1), (1, .class_ 15), (0, u "java/lang/String"), (0, .methodref 14 17), (0, .nameAndType 5 18), (0, u "([C)V"), (0, .methodref 20 21), (0, .class_ 22), (0, .nameAndType 23 24), (0, u "rootzone/Bound"), (0, u "positive"), (0, u "()Lrootzone/Bound;"), (0, .methodref 20 26), (0, .nameAndType 27 28), (0, u "check"), (0, u "(Ljava/lang/String;D)D"), (0, .methodref 20 30), (0, .nameAndType 31 28), (0, u "checkGiven"), (0, .class_ 33), (0, u "rootzone/BoundPositivePinLaw"), (2, u "law"), (0, u "(IIII)Z")] 5

def k1m0 : Method := { name := "<init>", desc := "()V", sig := { parameters := [], returnType := none }, accessFlags := 1, code := none }
def k1c1 : Code := { maxStack := 4, maxLocals := 17, code := code, exceptionTable := #[], attributes := #[] }
def k1m1 : Method := { name := "law", desc := "(IIII)Z", sig := { parameters := [.int, .int, .int, .int], returnType := some .boolean }, accessFlags := 9, code := some k1c1 }
/-- rootzone/BoundPositivePinLaw -/
def k1 : Class := { plain "rootzone/BoundPositivePinLaw" (some 0) with
  accessFlags := 49
  interfaces := #[]
  cf := some (fileOf pool1 32 #[] #[{ accessFlags := 1, nameIndex := 5, descriptorIndex := 6, attributes := #[] }, { accessFlags := 9, nameIndex := 36, descriptorIndex := 37, attributes := #[] }] 49 2 #[] #[])
  fields := #[]
  methods := #[k1m0, k1m1]
  instanceTypes := #[]
  staticTypes := #[]
  resolved := Array.replicate 43 none
  statics := none }

def pool2 : Array CpInfo := pool [(1, .class_ 2), (0, u "java/io/Serializable"), (0, .class_ 4), (0, u "java/lang/Object")] 2

/-- java/io/Serializable -/
def k2 : Class := { plain "java/io/Serializable" (some 0) with
  accessFlags := 1537
  interfaces := #[]
  cf := some (fileOf pool2 1 #[] #[] 1537 3 #[] #[])
  fields := #[]
  methods := #[]
  instanceTypes := #[]
  staticTypes := #[]
  resolved := Array.replicate 7 none
  statics := none }

def pool3 : Array CpInfo := pool [(1, .class_ 2), (0, u "java/lang/Comparable"), (0, .class_ 4), (0, u "java/lang/Object")] 7

/-- java/lang/Comparable -/
def k3 : Class := { plain "java/lang/Comparable" (some 0) with
  accessFlags := 1537
  interfaces := #[]
  cf := some (fileOf pool3 1 #[] #[] 1537 3 #[] #[])
  fields := #[]
  methods := #[]
  instanceTypes := #[]
  staticTypes := #[]
  resolved := Array.replicate 12 none
  statics := none }

def pool4 : Array CpInfo := pool [(2, .class_ 4), (1, u "java/lang/CharSequence"), (42, .class_ 48), (0, u "java/lang/CharSequence$1CodePointIterator"), (10, .class_ 60), (0, u "java/lang/CharSequence$1CharIterator"), (5, .class_ 67), (0, u "java/lang/Object")] 63

/-- java/lang/CharSequence -/
def k4 : Class := { plain "java/lang/CharSequence" (some 0) with
  accessFlags := 1537
  interfaces := #[]
  cf := some (fileOf pool4 2 #[.nestMembers #[47, 59]] #[] 1537 66 #[] #[])
  fields := #[]
  methods := #[]
  instanceTypes := #[]
  staticTypes := #[]
  resolved := Array.replicate 131 none
  statics := none }

def pool5 : Array CpInfo := pool [(1, .class_ 2), (0, u "java/lang/constant/Constable"), (0, .class_ 4), (0, u "java/lang/Object")] 6

/-- java/lang/constant/Constable -/
def k5 : Class := { plain "java/lang/constant/Constable" (some 0) with
  accessFlags := 1537
  interfaces := #[]
  cf := some (fileOf pool5 1 #[] #[] 1537 3 #[] #[])
  fields := #[]
  methods := #[]
  instanceTypes := #[]
  staticTypes := #[]
  resolved := Array.replicate 11 none
  statics := none }

def pool6 : Array CpInfo := pool [(1, .class_ 2), (0, u "java/lang/constant/ConstantDesc"), (0, .class_ 4), (0, u "java/lang/Object")] 32

/-- java/lang/constant/ConstantDesc -/
def k6 : Class := { plain "java/lang/constant/ConstantDesc" (some 0) with
  accessFlags := 1537
  interfaces := #[]
  cf := some (fileOf pool6 1 #[] #[] 1537 3 #[] #[])
  fields := #[]
  methods := #[]
  instanceTypes := #[]
  staticTypes := #[]
  resolved := Array.replicate 37 none
  statics := none }

def pool7 : Array CpInfo := pool [(1, .methodref 2 3), (0, .class_ 4), (0, .nameAndType 5 6), (0, u "java/lang/Object"), (0, u "<init>"), (0, u "()V"), (2, .fieldref 10 11), (0, .class_ 12), (0, .nameAndType 13 14), (0, u "java/lang/String"), (0, u "value"), (0, u "[B"), (0, .fieldref 10 16), (0, .nameAndType 17 18), (0, u "coder"), (0, u "B"), (2, u "hash"), (0, u "I"), (2, u "hashIsZero"), (0, u "Z"), (0, .methodref 10 28), (0, .nameAndType 5 29), (0, u "([CIILjava/lang/Void;)V"), (8, .fieldref 10 39), (0, .nameAndType 40 26), (0, u "COMPACT_STRINGS"), (1, .class_ 44), (1, u "java/lang/StringUTF16"), (0, u "compress"), (1, .methodref 42 48), (0, .nameAndType 49 50), (0, u "coderFromArrayLen"), (0, u "([BI)B"), (126, .methodref 42 178), (0, .nameAndType 45 179), (0, u "([CII)[B"), (395, .class_ 576), (0, u "java/lang/CharSequence"), (22, u "CASE_INSENSITIVE_ORDER"), (0, u "Ljava/util/Comparator;"), (409, u "([C)V"), (90, u "serialPersistentFields"), (0, u "[Ljava/io/ObjectStreamField;"), (0, .class_ 1104), (0, u "java/lang/String$CaseInsensitiveComparator"), (1, .class_ 1107), (0, u "java/io/Serializable"), (0, .class_ 1109), (0, u "java/lang/Comparable"), (0, .class_ 1111), (0, u "java/lang/constant/Constable"), (0, .class_ 1113), (0, u "java/lang/constant/ConstantDesc"), (2, u "serialVersionUID"), (0, u "J"), (3, u "REPL"), (0, u "C"), (2, u "LATIN1"), (1, u "UTF16")] 323

def k7m0 : Method := { name := "<init>", desc := "()V", sig := { parameters := [], returnType := none }, accessFlags := 1, code := none }
def k7c1 : Code := { maxStack := 5, maxLocals := 2, code := jdk_42_method_3_code, exceptionTable := #[], attributes := #[] }
def k7m1 : Method := { name := "<init>", desc := "([C)V", sig := { parameters := [(.array .char)], returnType := none }, accessFlags := 1, code := some k7c1 }
def k7c2 : Code := { maxStack := 4, maxLocals := 6, code := jdk_42_method_149_code, exceptionTable := #[], attributes := #[] }
def k7m2 : Method := { name := "<init>", desc := "([CIILjava/lang/Void;)V", sig := { parameters := [(.array .char), .int, .int, (.object "java/lang/Void")], returnType := none }, accessFlags := 2, code := some k7c2 }
/-- java/lang/String -/
def k7 : Class := { plain "java/lang/String" (some 0) with
  accessFlags := 49
  interfaces := #[2, 3, 4, 5, 6]
  cf := some (fileOf pool7 10 #[.nestMembers #[1103]] #[{ accessFlags := 1, nameIndex := 5, descriptorIndex := 6, attributes := #[] }, { accessFlags := 1, nameIndex := 5, descriptorIndex := 1010, attributes := #[] }, { accessFlags := 2, nameIndex := 5, descriptorIndex := 29, attributes := #[] }] 49 2 #[1106, 1108, 575, 1110, 1112] #[{ accessFlags := 18, nameIndex := 13, descriptorIndex := 14, attributes := #[] }, { accessFlags := 18, nameIndex := 17, descriptorIndex := 18, attributes := #[] }, { accessFlags := 2, nameIndex := 21, descriptorIndex := 22, attributes := #[] }, { accessFlags := 2, nameIndex := 25, descriptorIndex := 26, attributes := #[] }, { accessFlags := 26, nameIndex := 1116, descriptorIndex := 1117, attributes := #[] }, { accessFlags := 24, nameIndex := 40, descriptorIndex := 26, attributes := #[] }, { accessFlags := 26, nameIndex := 1101, descriptorIndex := 1102, attributes := #[] }, { accessFlags := 26, nameIndex := 1121, descriptorIndex := 1122, attributes := #[] }, { accessFlags := 25, nameIndex := 599, descriptorIndex := 600, attributes := #[] }, { accessFlags := 24, nameIndex := 1125, descriptorIndex := 18, attributes := #[] }, { accessFlags := 24, nameIndex := 1127, descriptorIndex := 18, attributes := #[] }])
  fields := #[{ name := "value", type := (.array .byte), accessFlags := 18, slot := 0, constantValue := 0 }, { name := "coder", type := .byte, accessFlags := 18, slot := 1, constantValue := 0 }, { name := "hash", type := .int, accessFlags := 2, slot := 2, constantValue := 0 }, { name := "hashIsZero", type := .boolean, accessFlags := 2, slot := 3, constantValue := 0 }, { name := "serialVersionUID", type := .long, accessFlags := 26, slot := 0, constantValue := 0 }, { name := "COMPACT_STRINGS", type := .boolean, accessFlags := 24, slot := 1, constantValue := 0 }, { name := "serialPersistentFields", type := (.array (.object "java/io/ObjectStreamField")), accessFlags := 26, slot := 2, constantValue := 0 }, { name := "REPL", type := .char, accessFlags := 26, slot := 3, constantValue := 0 }, { name := "CASE_INSENSITIVE_ORDER", type := (.object "java/util/Comparator"), accessFlags := 25, slot := 4, constantValue := 0 }, { name := "LATIN1", type := .byte, accessFlags := 24, slot := 5, constantValue := 0 }, { name := "UTF16", type := .byte, accessFlags := 24, slot := 6, constantValue := 0 }]
  methods := #[k7m0, k7m1, k7m2]
  instanceTypes := #[(.array .byte), .byte, .int, .boolean]
  staticTypes := #[.long, .boolean, (.array (.object "java/io/ObjectStreamField")), .char, (.object "java/util/Comparator"), .byte, .byte]
  resolved := Array.replicate 1451 none
  statics := some 0 }

def pool8 : Array CpInfo := pool [(6, .class_ 8), (1, u "java/lang/Object"), (0, u "<init>"), (0, u "()V"), (1, .class_ 14), (1, u "java/lang/StringUTF16"), (31, u "$assertionsDisabled"), (0, u "Z"), (13, u "HI_BYTE_SHIFT"), (0, u "I"), (2, u "LO_BYTE_SHIFT"), (49, .methodref 12 116), (0, .nameAndType 117 118), (0, u "compress"), (0, u "([CI[BII)I"), (3, u "([CII)[B"), (138, u "coderFromArrayLen"), (0, u "([BI)B"), (106, .class_ 371), (1, u "java/lang/StringUTF16$LinesSpliterator"), (58, u "MAX_LENGTH"), (196, .class_ 628), (0, u "java/lang/StringUTF16$CodePointsSpliterator"), (0, .class_ 630), (0, u "java/lang/StringUTF16$CharsSpliterator")] 4

def k8m0 : Method := { name := "<init>", desc := "()V", sig := { parameters := [], returnType := none }, accessFlags := 0, code := none }
def k8c1 : Code := { maxStack := 2, maxLocals := 2, code := jdk_52_method_15_code, exceptionTable := #[], attributes := #[] }
def k8m1 : Method := { name := "coderFromArrayLen", desc := "([BI)B", sig := { parameters := [(.array .byte), .int], returnType := some .byte }, accessFlags := 8, code := some k8c1 }
def k8c2 : Code := { maxStack := 5, maxLocals := 6, code := jdk_52_method_16_code, exceptionTable := #[], attributes := #[] }
def k8m2 : Method := { name := "compress", desc := "([CII)[B", sig := { parameters := [(.array .char), .int, .int], returnType := some (.array .byte) }, accessFlags := 9, code := some k8c2 }
def k8c3 : Code := { maxStack := 3, maxLocals := 7, code := jdk_52_method_21_code, exceptionTable := #[], attributes := #[] }
def k8m3 : Method := { name := "compress", desc := "([CI[BII)I", sig := { parameters := [(.array .char), .int, (.array .byte), .int, .int], returnType := some .int }, accessFlags := 9, code := some k8c3 }
/-- java/lang/StringUTF16 -/
def k8 : Class := { plain "java/lang/StringUTF16" (some 0) with
  accessFlags := 48
  interfaces := #[]
  cf := some (fileOf pool8 12 #[.nestMembers #[627, 629, 369]] #[{ accessFlags := 0, nameIndex := 9, descriptorIndex := 10, attributes := #[] }, { accessFlags := 8, nameIndex := 261, descriptorIndex := 262, attributes := #[] }, { accessFlags := 9, nameIndex := 117, descriptorIndex := 122, attributes := #[] }, { accessFlags := 9, nameIndex := 117, descriptorIndex := 118, attributes := #[] }] 48 6 #[] #[{ accessFlags := 26, nameIndex := 61, descriptorIndex := 62, attributes := #[] }, { accessFlags := 26, nameIndex := 65, descriptorIndex := 62, attributes := #[] }, { accessFlags := 24, nameIndex := 430, descriptorIndex := 62, attributes := #[] }, { accessFlags := 4120, nameIndex := 46, descriptorIndex := 47, attributes := #[] }])
  fields := #[{ name := "HI_BYTE_SHIFT", type := .int, accessFlags := 26, slot := 0, constantValue := 0 }, { name := "LO_BYTE_SHIFT", type := .int, accessFlags := 26, slot := 1, constantValue := 0 }, { name := "MAX_LENGTH", type := .int, accessFlags := 24, slot := 2, constantValue := 0 }, { name := "$assertionsDisabled", type := .boolean, accessFlags := 4120, slot := 3, constantValue := 0 }]
  methods := #[k8m0, k8m1, k8m2, k8m3]
  instanceTypes := #[]
  staticTypes := #[.int, .int, .int, .boolean]
  resolved := Array.replicate 635 none
  statics := none }

def pool9 : Array CpInfo := pool [(1, .methodref 2 3), (0, .class_ 4), (0, .nameAndType 5 6), (0, u "java/lang/Object"), (0, u "<init>"), (0, u "()V"), (0, .fieldref 8 9), (0, .class_ 10), (0, .nameAndType 11 12), (0, u "rootzone/Bound"), (0, u "least"), (0, u "D"), (0, .fieldref 8 14), (0, .nameAndType 15 16), (0, u "leastIncluded"), (0, u "Z"), (0, .fieldref 8 18), (0, .nameAndType 19 20), (0, u "below"), (0, u "Ljava/lang/String;"), (0, .fieldref 8 22), (0, .nameAndType 23 12), (0, u "most"), (0, .fieldref 8 25), (0, .nameAndType 26 16), (0, u "mostIncluded"), (0, .fieldref 8 28), (0, .nameAndType 29 20), (0, u "above"), (10, .methodref 8 41), (0, .nameAndType 5 42), (0, u "(DZLjava/lang/String;DZLjava/lang/String;)V"), (7, .class_ 51), (0, u "java/lang/Double"), (0, .double 9218868437227405311), (1, .string 55), (0, u "is not finite"), (0, .string 57), (0, u "is not above 0"), (1, .methodref 50 60), (0, .nameAndType 61 62), (0, u "isNaN"), (0, u "(D)Z"), (8, .methodref 8 72), (0, .nameAndType 73 74), (0, u "checkGiven"), (0, u "(Ljava/lang/String;D)D"), (48, u "NOT_FINITE"), (10, u "()Lrootzone/Bound;"), (0, u "positive"), (1, u "check")] 38

def k9c0 : Code := { maxStack := 3, maxLocals := 9, code := prog_1_method_1_code, exceptionTable := #[], attributes := #[] }
def k9m0 : Method := { name := "<init>", desc := "(DZLjava/lang/String;DZLjava/lang/String;)V", sig := { parameters := [.double, .boolean, (.object "java/lang/String"), .double, .boolean, (.object "java/lang/String")], returnType := none }, accessFlags := 2, code := some k9c0 }
def k9c1 : Code := { maxStack := 10, maxLocals := 0, code := prog_1_method_7_code, exceptionTable := #[], attributes := #[] }
def k9m1 : Method := { name := "positive", desc := "()Lrootzone/Bound;", sig := { parameters := [], returnType := some (.object "rootzone/Bound") }, accessFlags := 8, code := some k9c1 }
def k9c2 : Code := { maxStack := 4, maxLocals := 4, code := prog_1_method_9_code, exceptionTable := #[], attributes := #[] }
def k9m2 : Method := { name := "check", desc := "(Ljava/lang/String;D)D", sig := { parameters := [(.object "java/lang/String"), .double], returnType := some .double }, accessFlags := 1, code := some k9c2 }
def k9c3 : Code := { maxStack := 4, maxLocals := 6, code := prog_1_method_10_code, exceptionTable := #[], attributes := #[] }
def k9m3 : Method := { name := "checkGiven", desc := "(Ljava/lang/String;D)D", sig := { parameters := [(.object "java/lang/String"), .double], returnType := some .double }, accessFlags := 1, code := some k9c3 }
/-- rootzone/Bound -/
def k9 : Class := { plain "rootzone/Bound" (some 0) with
  accessFlags := 49
  interfaces := #[]
  cf := some (fileOf pool9 8 #[] #[{ accessFlags := 2, nameIndex := 5, descriptorIndex := 42, attributes := #[] }, { accessFlags := 8, nameIndex := 135, descriptorIndex := 134, attributes := #[] }, { accessFlags := 1, nameIndex := 137, descriptorIndex := 74, attributes := #[] }, { accessFlags := 1, nameIndex := 73, descriptorIndex := 74, attributes := #[] }] 49 2 #[] #[{ accessFlags := 26, nameIndex := 123, descriptorIndex := 20, attributes := #[] }, { accessFlags := 18, nameIndex := 11, descriptorIndex := 12, attributes := #[] }, { accessFlags := 18, nameIndex := 15, descriptorIndex := 16, attributes := #[] }, { accessFlags := 18, nameIndex := 19, descriptorIndex := 20, attributes := #[] }, { accessFlags := 18, nameIndex := 23, descriptorIndex := 12, attributes := #[] }, { accessFlags := 18, nameIndex := 26, descriptorIndex := 16, attributes := #[] }, { accessFlags := 18, nameIndex := 29, descriptorIndex := 20, attributes := #[] }])
  fields := #[{ name := "NOT_FINITE", type := (.object "java/lang/String"), accessFlags := 26, slot := 0, constantValue := 0 }, { name := "least", type := .double, accessFlags := 18, slot := 0, constantValue := 0 }, { name := "leastIncluded", type := .boolean, accessFlags := 18, slot := 1, constantValue := 0 }, { name := "below", type := (.object "java/lang/String"), accessFlags := 18, slot := 2, constantValue := 0 }, { name := "most", type := .double, accessFlags := 18, slot := 3, constantValue := 0 }, { name := "mostIncluded", type := .boolean, accessFlags := 18, slot := 4, constantValue := 0 }, { name := "above", type := (.object "java/lang/String"), accessFlags := 18, slot := 5, constantValue := 0 }]
  methods := #[k9m0, k9m1, k9m2, k9m3]
  instanceTypes := #[.double, .boolean, (.object "java/lang/String"), .double, .boolean, (.object "java/lang/String")]
  staticTypes := #[(.object "java/lang/String")]
  resolved := Array.replicate 176 none
  statics := none }

def pool10 : Array CpInfo := pool [(2, .class_ 4), (1, u "java/lang/Object"), (0, u "<init>"), (0, u "()V"), (1, .class_ 10), (1, u "java/lang/Number"), (2, .class_ 14), (0, u "java/io/Serializable"), (0, u "serialVersionUID"), (0, u "J")] 20

def k10m0 : Method := { name := "<init>", desc := "()V", sig := { parameters := [], returnType := none }, accessFlags := 1, code := none }
/-- java/lang/Number -/
def k10 : Class := { plain "java/lang/Number" (some 0) with
  accessFlags := 1057
  interfaces := #[2]
  cf := some (fileOf pool10 8 #[] #[{ accessFlags := 1, nameIndex := 5, descriptorIndex := 6, attributes := #[] }] 1057 2 #[13] #[{ accessFlags := 26, nameIndex := 15, descriptorIndex := 16, attributes := #[] }])
  fields := #[{ name := "serialVersionUID", type := .long, accessFlags := 26, slot := 0, constantValue := 0 }]
  methods := #[k10m0]
  instanceTypes := #[]
  staticTypes := #[.long]
  resolved := Array.replicate 37 none
  statics := none }

def pool11 : Array CpInfo := pool [(1, .class_ 2), (0, u "java/lang/Double"), (11, u "(D)Z"), (99, .class_ 116), (1, u "java/lang/Number"), (3, u "value"), (0, u "D"), (2, u "isNaN"), (48, u "TYPE"), (0, u "Ljava/lang/Class;"), (0, .class_ 176), (0, u "java/lang/Comparable"), (0, .class_ 178), (0, u "java/lang/constant/Constable"), (0, .class_ 180), (0, u "java/lang/constant/ConstantDesc"), (0, u "POSITIVE_INFINITY"), (3, u "NEGATIVE_INFINITY"), (2, u "NaN"), (2, u "MAX_VALUE"), (0, u "MIN_NORMAL"), (0, u "MIN_VALUE"), (2, u "SIZE"), (0, u "I"), (1, u "PRECISION"), (1, u "MAX_EXPONENT"), (1, u "MIN_EXPONENT"), (1, u "BYTES"), (3, u "serialVersionUID"), (0, u "J")] 79

def k11c0 : Code := { maxStack := 4, maxLocals := 2, code := jdk_117_method_6_code, exceptionTable := #[], attributes := #[] }
def k11m0 : Method := { name := "isNaN", desc := "(D)Z", sig := { parameters := [.double], returnType := some .boolean }, accessFlags := 9, code := some k11c0 }
/-- java/lang/Double -/
def k11 : Class := { plain "java/lang/Double" (some 10) with
  accessFlags := 49
  interfaces := #[3, 5, 6]
  cf := some (fileOf pool11 1 #[] #[{ accessFlags := 9, nameIndex := 124, descriptorIndex := 14, attributes := #[] }] 49 114 #[175, 177, 179] #[{ accessFlags := 25, nameIndex := 181, descriptorIndex := 121, attributes := #[] }, { accessFlags := 25, nameIndex := 185, descriptorIndex := 121, attributes := #[] }, { accessFlags := 25, nameIndex := 188, descriptorIndex := 121, attributes := #[] }, { accessFlags := 25, nameIndex := 191, descriptorIndex := 121, attributes := #[] }, { accessFlags := 25, nameIndex := 192, descriptorIndex := 121, attributes := #[] }, { accessFlags := 25, nameIndex := 193, descriptorIndex := 121, attributes := #[] }, { accessFlags := 25, nameIndex := 196, descriptorIndex := 197, attributes := #[] }, { accessFlags := 25, nameIndex := 199, descriptorIndex := 197, attributes := #[] }, { accessFlags := 25, nameIndex := 201, descriptorIndex := 197, attributes := #[] }, { accessFlags := 25, nameIndex := 203, descriptorIndex := 197, attributes := #[] }, { accessFlags := 25, nameIndex := 205, descriptorIndex := 197, attributes := #[] }, { accessFlags := 25, nameIndex := 173, descriptorIndex := 174, attributes := #[] }, { accessFlags := 18, nameIndex := 120, descriptorIndex := 121, attributes := #[] }, { accessFlags := 26, nameIndex := 209, descriptorIndex := 210, attributes := #[] }])
  fields := #[{ name := "POSITIVE_INFINITY", type := .double, accessFlags := 25, slot := 0, constantValue := 0 }, { name := "NEGATIVE_INFINITY", type := .double, accessFlags := 25, slot := 1, constantValue := 0 }, { name := "NaN", type := .double, accessFlags := 25, slot := 2, constantValue := 0 }, { name := "MAX_VALUE", type := .double, accessFlags := 25, slot := 3, constantValue := 0 }, { name := "MIN_NORMAL", type := .double, accessFlags := 25, slot := 4, constantValue := 0 }, { name := "MIN_VALUE", type := .double, accessFlags := 25, slot := 5, constantValue := 0 }, { name := "SIZE", type := .int, accessFlags := 25, slot := 6, constantValue := 0 }, { name := "PRECISION", type := .int, accessFlags := 25, slot := 7, constantValue := 0 }, { name := "MAX_EXPONENT", type := .int, accessFlags := 25, slot := 8, constantValue := 0 }, { name := "MIN_EXPONENT", type := .int, accessFlags := 25, slot := 9, constantValue := 0 }, { name := "BYTES", type := .int, accessFlags := 25, slot := 10, constantValue := 0 }, { name := "TYPE", type := (.object "java/lang/Class"), accessFlags := 25, slot := 11, constantValue := 0 }, { name := "value", type := .double, accessFlags := 18, slot := 0, constantValue := 0 }, { name := "serialVersionUID", type := .long, accessFlags := 26, slot := 12, constantValue := 0 }]
  methods := #[k11m0]
  instanceTypes := #[.double]
  staticTypes := #[.double, .double, .double, .double, .double, .double, .int, .int, .int, .int, .int, (.object "java/lang/Class"), .long]
  resolved := Array.replicate 290 none
  statics := none }

def pool12 : Array CpInfo := pool [(4, .class_ 6), (1, u "java/lang/Object"), (0, u "<init>"), (0, u "()V"), (5, .class_ 16), (1, u "java/lang/StringLatin1"), (104, u "$assertionsDisabled"), (0, u "Z"), (98, .class_ 223), (1, u "java/lang/StringLatin1$LinesSpliterator"), (166, .class_ 391), (0, u "java/lang/StringLatin1$CharsSpliterator")] 3

def k12m0 : Method := { name := "<init>", desc := "()V", sig := { parameters := [], returnType := none }, accessFlags := 0, code := none }
/-- java/lang/StringLatin1 -/
def k12 : Class := { plain "java/lang/StringLatin1" (some 0) with
  accessFlags := 48
  interfaces := #[]
  cf := some (fileOf pool12 14 #[.nestMembers #[390, 221]] #[{ accessFlags := 0, nameIndex := 7, descriptorIndex := 8, attributes := #[] }] 48 4 #[] #[{ accessFlags := 4120, nameIndex := 121, descriptorIndex := 122, attributes := #[] }])
  fields := #[{ name := "$assertionsDisabled", type := .boolean, accessFlags := 4120, slot := 0, constantValue := 0 }]
  methods := #[k12m0]
  instanceTypes := #[]
  staticTypes := #[.boolean]
  resolved := Array.replicate 395 none
  statics := none }

def pool13 : Array CpInfo := pool [(2, .class_ 4), (1, u "java/lang/Object"), (0, u "<init>"), (0, u "()V"), (17, .class_ 26), (1, u "jdk/internal/util/Preconditions"), (28, .class_ 56), (0, u "jdk/internal/util/Preconditions$4"), (57, .class_ 115), (0, u "jdk/internal/util/Preconditions$1"), (7, u "SIOOBE_FORMATTER"), (0, u "Ljava/util/function/BiFunction;"), (0, .class_ 126), (0, u "jdk/internal/util/Preconditions$2"), (3, u "AIOOBE_FORMATTER"), (0, .class_ 132), (0, u "jdk/internal/util/Preconditions$3"), (3, u "IOOBE_FORMATTER")] 57

def k13m0 : Method := { name := "<init>", desc := "()V", sig := { parameters := [], returnType := none }, accessFlags := 1, code := none }
/-- jdk/internal/util/Preconditions -/
def k13 : Class := { plain "jdk/internal/util/Preconditions" (some 0) with
  accessFlags := 33
  interfaces := #[]
  cf := some (fileOf pool13 24 #[.nestMembers #[55, 131, 125, 114]] #[{ accessFlags := 1, nameIndex := 5, descriptorIndex := 6, attributes := #[] }] 33 2 #[] #[{ accessFlags := 25, nameIndex := 123, descriptorIndex := 124, attributes := #[] }, { accessFlags := 25, nameIndex := 130, descriptorIndex := 124, attributes := #[] }, { accessFlags := 25, nameIndex := 136, descriptorIndex := 124, attributes := #[] }])
  fields := #[{ name := "SIOOBE_FORMATTER", type := (.object "java/util/function/BiFunction"), accessFlags := 25, slot := 0, constantValue := 0 }, { name := "AIOOBE_FORMATTER", type := (.object "java/util/function/BiFunction"), accessFlags := 25, slot := 1, constantValue := 0 }, { name := "IOOBE_FORMATTER", type := (.object "java/util/function/BiFunction"), accessFlags := 25, slot := 2, constantValue := 0 }]
  methods := #[k13m0]
  instanceTypes := #[]
  staticTypes := #[(.object "java/util/function/BiFunction"), (.object "java/util/function/BiFunction"), (.object "java/util/function/BiFunction")]
  resolved := Array.replicate 194 none
  statics := some 1 }

def pool14 : Array CpInfo := pool [(9, u "<init>"), (6, .class_ 18), (1, u "java/lang/Object"), (0, u "()V"), (1, .class_ 23), (1, u "jdk/internal/util/ArraysSupport"), (0, u "LOG2_ARRAY_LONG_INDEX_SCALE"), (0, u "I"), (2, u "U"), (0, u "Ljdk/internal/misc/Unsafe;"), (8, u "BIG_ENDIAN"), (0, u "Z"), (8, u "LOG2_BYTE_BIT_SIZE"), (4, u "LOG2_ARRAY_INT_INDEX_SCALE"), (54, u "JLA"), (0, u "Ljdk/internal/access/JavaLangAccess;"), (11, u "LOG2_ARRAY_BOOLEAN_INDEX_SCALE"), (9, u "LOG2_ARRAY_BYTE_INDEX_SCALE"), (5, u "LOG2_ARRAY_CHAR_INDEX_SCALE"), (5, u "LOG2_ARRAY_SHORT_INDEX_SCALE"), (18, u "LOG2_ARRAY_FLOAT_INDEX_SCALE"), (24, u "LOG2_ARRAY_DOUBLE_INDEX_SCALE"), (89, u "T_BOOLEAN"), (2, u "T_CHAR"), (1, u "T_FLOAT"), (1, u "T_DOUBLE"), (1, u "T_BYTE"), (1, u "T_SHORT"), (1, u "T_INT"), (1, u "T_LONG"), (1, u "SOFT_MAX_ARRAY_LENGTH")] 83

def k14m0 : Method := { name := "<init>", desc := "()V", sig := { parameters := [], returnType := none }, accessFlags := 2, code := none }
/-- jdk/internal/util/ArraysSupport -/
def k14 : Class := { plain "jdk/internal/util/ArraysSupport" (some 0) with
  accessFlags := 33
  interfaces := #[]
  cf := some (fileOf pool14 21 #[] #[{ accessFlags := 2, nameIndex := 9, descriptorIndex := 19, attributes := #[] }] 33 16 #[] #[{ accessFlags := 24, nameIndex := 28, descriptorIndex := 29, attributes := #[] }, { accessFlags := 26, nameIndex := 38, descriptorIndex := 39, attributes := #[] }, { accessFlags := 25, nameIndex := 121, descriptorIndex := 25, attributes := #[] }, { accessFlags := 25, nameIndex := 131, descriptorIndex := 25, attributes := #[] }, { accessFlags := 25, nameIndex := 137, descriptorIndex := 25, attributes := #[] }, { accessFlags := 25, nameIndex := 143, descriptorIndex := 25, attributes := #[] }, { accessFlags := 25, nameIndex := 53, descriptorIndex := 25, attributes := #[] }, { accessFlags := 25, nameIndex := 24, descriptorIndex := 25, attributes := #[] }, { accessFlags := 25, nameIndex := 162, descriptorIndex := 25, attributes := #[] }, { accessFlags := 25, nameIndex := 187, descriptorIndex := 25, attributes := #[] }, { accessFlags := 26, nameIndex := 48, descriptorIndex := 25, attributes := #[] }, { accessFlags := 25, nameIndex := 277, descriptorIndex := 25, attributes := #[] }, { accessFlags := 25, nameIndex := 280, descriptorIndex := 25, attributes := #[] }, { accessFlags := 25, nameIndex := 282, descriptorIndex := 25, attributes := #[] }, { accessFlags := 25, nameIndex := 284, descriptorIndex := 25, attributes := #[] }, { accessFlags := 25, nameIndex := 286, descriptorIndex := 25, attributes := #[] }, { accessFlags := 25, nameIndex := 288, descriptorIndex := 25, attributes := #[] }, { accessFlags := 25, nameIndex := 290, descriptorIndex := 25, attributes := #[] }, { accessFlags := 25, nameIndex := 292, descriptorIndex := 25, attributes := #[] }, { accessFlags := 26, nameIndex := 108, descriptorIndex := 109, attributes := #[] }, { accessFlags := 25, nameIndex := 294, descriptorIndex := 25, attributes := #[] }])
  fields := #[{ name := "U", type := (.object "jdk/internal/misc/Unsafe"), accessFlags := 24, slot := 0, constantValue := 0 }, { name := "BIG_ENDIAN", type := .boolean, accessFlags := 26, slot := 1, constantValue := 0 }, { name := "LOG2_ARRAY_BOOLEAN_INDEX_SCALE", type := .int, accessFlags := 25, slot := 2, constantValue := 0 }, { name := "LOG2_ARRAY_BYTE_INDEX_SCALE", type := .int, accessFlags := 25, slot := 3, constantValue := 0 }, { name := "LOG2_ARRAY_CHAR_INDEX_SCALE", type := .int, accessFlags := 25, slot := 4, constantValue := 0 }, { name := "LOG2_ARRAY_SHORT_INDEX_SCALE", type := .int, accessFlags := 25, slot := 5, constantValue := 0 }, { name := "LOG2_ARRAY_INT_INDEX_SCALE", type := .int, accessFlags := 25, slot := 6, constantValue := 0 }, { name := "LOG2_ARRAY_LONG_INDEX_SCALE", type := .int, accessFlags := 25, slot := 7, constantValue := 0 }, { name := "LOG2_ARRAY_FLOAT_INDEX_SCALE", type := .int, accessFlags := 25, slot := 8, constantValue := 0 }, { name := "LOG2_ARRAY_DOUBLE_INDEX_SCALE", type := .int, accessFlags := 25, slot := 9, constantValue := 0 }, { name := "LOG2_BYTE_BIT_SIZE", type := .int, accessFlags := 26, slot := 10, constantValue := 0 }, { name := "T_BOOLEAN", type := .int, accessFlags := 25, slot := 11, constantValue := 0 }, { name := "T_CHAR", type := .int, accessFlags := 25, slot := 12, constantValue := 0 }, { name := "T_FLOAT", type := .int, accessFlags := 25, slot := 13, constantValue := 0 }, { name := "T_DOUBLE", type := .int, accessFlags := 25, slot := 14, constantValue := 0 }, { name := "T_BYTE", type := .int, accessFlags := 25, slot := 15, constantValue := 0 }, { name := "T_SHORT", type := .int, accessFlags := 25, slot := 16, constantValue := 0 }, { name := "T_INT", type := .int, accessFlags := 25, slot := 17, constantValue := 0 }, { name := "T_LONG", type := .int, accessFlags := 25, slot := 18, constantValue := 0 }, { name := "JLA", type := (.object "jdk/internal/access/JavaLangAccess"), accessFlags := 26, slot := 19, constantValue := 0 }, { name := "SOFT_MAX_ARRAY_LENGTH", type := .int, accessFlags := 25, slot := 20, constantValue := 0 }]
  methods := #[k14m0]
  instanceTypes := #[]
  staticTypes := #[(.object "jdk/internal/misc/Unsafe"), .boolean, .int, .int, .int, .int, .int, .int, .int, .int, .int, .int, .int, .int, .int, .int, .int, .int, .int, (.object "jdk/internal/access/JavaLangAccess"), .int]
  resolved := Array.replicate 378 none
  statics := none }

def pool15 : Array CpInfo := pool [(1, u "java/lang/Cloneable"), (0, .class_ 1), (0, u "java/lang/Object"), (0, .class_ 3)] 3

/-- java/lang/Cloneable -/
def k15 : Class := { plain "java/lang/Cloneable" (some 0) with
  accessFlags := 1537
  interfaces := #[]
  cf := some (fileOf pool15 2 #[] #[] 1537 4 #[] #[])
  fields := #[]
  methods := #[]
  instanceTypes := #[]
  staticTypes := #[]
  resolved := Array.replicate 8 none
  statics := none }

/-- the primitive byte -/
def k16 : Class := { plain "byte" none with kind := .primitive 'B', accessFlags := 0x411 }
/-- [B -/
def k17 : Class := { plain "[B" (some 0) with kind := .array 16 .byte, interfaces := #[15, 2], accessFlags := 1041 }

/-- the primitive char -/
def k18 : Class := { plain "char" none with kind := .primitive 'C', accessFlags := 0x411 }
/-- [C -/
def k19 : Class := { plain "[C" (some 0) with kind := .array 18 .char, interfaces := #[15, 2], accessFlags := 1041 }

def heap : Heap := #[{ cls := 7, slots := #[.long 0, .int 1, .null, .int 0, .null, .int 0, .int 0], vm := .statics 7 },
  { cls := 13, slots := #[.null, .null, .null], vm := .statics 13 }]
def classes : Array Class := #[k0, k1, k2, k3, k4, k5, k6, k7, k8, k9, k10, k11, k12, k13, k14, k15, k16, k17, k18, k19]
def interned : List (Array UInt16 × Addr) := []
def slotsUsed : Nat := 10
def theMethod : MethodId := ⟨1, 1⟩
def args0 : Array Value := #[.int 3, .int 4, .int 65, .int 5]
def aboutOver (below : List Frame) : State where
  vm := { classes := classes, interned := interned.toArray }
  heap := heap
  slotsUsed := slotsUsed
  threads := #[{ frames := .invoking theMethod args0 :: below }]
def below0 : List Frame := [.native { method := ⟨0, 0⟩, args := #[] }]
def about1 : State := aboutOver below0
def p0 : Program := .bare "" "" ""
def e0 : Env := launch0.env 0 0 0
theorem w_frames : about1.frames = Frame.invoking theMethod args0 :: below0 := rfl
set_option maxRecDepth 65536 in
theorem w_args : argsFit about1.vm theMethod args0 = true := by decide +kernel
set_option maxRecDepth 65536 in
theorem w_heap : heapFits about1 = true := by decide +kernel
set_option maxRecDepth 65536 in
theorem w_runnable : about1.curStatus? = some .runnable := by decide +kernel
set_option maxRecDepth 65536 in
theorem w_alone : about1.alone = true := by decide +kernel
set_option maxRecDepth 65536 in
theorem w_named : about1.methodNamed? x = some theMethod := by decide +kernel
set_option maxRecDepth 65536 in
theorem w_hears : about1.hears theMethod below0 = true := by decide +kernel
set_option maxRecDepth 65536 in
theorem w_ripe : about1.ripe theMethod args0 below0 = true := by decide +kernel
theorem w_running : about1.status = .running := rfl
set_option maxRecDepth 65536 in
theorem w_room : about1.hasRoom e0.platform room_1 = true :=
  launch0.hasRoom_least _ room_1 (by decide +kernel) (by decide +kernel) (by decide +kernel) (by decide +kernel) (by decide +kernel) (by decide +kernel)
theorem allAtoms_all (ts : List Jvm.Cond) (a : Array Jvm.Value) (st : Jvm.State) : (allAtoms ts).before a st = ts.all (fun c => c.before a st) := by
  induction ts with
  | nil => rfl
  | cons c t ih =>
    show (Jvm.Cond.and c (allAtoms t)).before a st = _
    rw [Jvm.Cond.before_and, ih, List.all_cons]
def words1 : List Jvm.Cond := Jvm.Cond.code x code maxLocals ret :: tables_1
/-- a 'code' word, met by the world's own term for the bytes: nothing is compared byte by byte -/
theorem code_word {y : MethodName} {bytes : ByteArray} {mx : Nat} {rt : Option FieldType} {a : Array Value} {s : State} {m : MethodId} {meth : Method} {c : Code} (h1 : s.methodNamed? y = some m) (h2 : s.vm.method? m = some meth) (h3 : meth.code = some c) (h4 : c.code = bytes)
    (h5 : (c.maxLocals == mx && c.exceptionTable.isEmpty && decide (c.maxStack ≤ mostOperands) && decide (meth.sig.returnType = rt) && !meth.locks && decide (parseMethodDescriptor y.desc = some meth.sig)) = true) : (Jvm.Cond.code y bytes mx rt).before a s = true := by
  simp only [Bool.and_eq_true, beq_iff_eq, Bool.not_eq_true', decide_eq_true_eq] at h5
  obtain ⟨⟨⟨⟨⟨g1, g2⟩, g3⟩, g4⟩, g5⟩, g6⟩ := h5
  simp [Cond.before, Cond.holds, Cond.value, h1, h2, h3, h4, g1, g2, g3, g4, g5, g6]
def isCode : Jvm.Cond → Bool
  | .code _ _ _ _ => true
  | _ => false
theorem all_split {L : List Jvm.Cond} {P : Jvm.Cond → Bool} (h1 : L.all (fun c => isCode c || P c) = true) (h2 : ∀ c ∈ L.filter isCode, P c = true) : L.all P = true := by
  refine List.all_eq_true.mpr fun c hc => ?_
  have h := List.all_eq_true.mp h1 c hc
  rcases Bool.eq_false_or_eq_true (isCode c) with hi | hi
  · exact h2 c (List.mem_filter.mpr ⟨hc, hi⟩)
  · simpa [hi] using h
set_option maxRecDepth 65536 in
theorem w_c0 : (Jvm.Cond.code x code maxLocals ret).before args0 about1 = true := code_word (m := ⟨1, 1⟩) (meth := k1m1) (c := k1c1) (by decide +kernel) rfl rfl rfl (by decide +kernel)
set_option maxRecDepth 65536 in
theorem w_c1 : (Jvm.Cond.code ({ cls := "java/lang/String", name := "<init>", desc := "([C)V" } : Jvm.MethodName) jdk_42_method_3_code (2 : Nat) (Option.none : Option Jvm.ClassFile.FieldType)).before args0 about1 = true := code_word (m := ⟨7, 1⟩) (meth := k7m1) (c := k7c1) (by decide +kernel) rfl rfl rfl (by decide +kernel)
set_option maxRecDepth 65536 in
theorem w_c2 : (Jvm.Cond.code ({ cls := "java/lang/String", name := "<init>", desc := "([CIILjava/lang/Void;)V" } : Jvm.MethodName) jdk_42_method_149_code (6 : Nat) (Option.none : Option Jvm.ClassFile.FieldType)).before args0 about1 = true := code_word (m := ⟨7, 2⟩) (meth := k7m2) (c := k7c2) (by decide +kernel) rfl rfl rfl (by decide +kernel)
set_option maxRecDepth 65536 in
theorem w_c3 : (Jvm.Cond.code ({ cls := "java/lang/Object", name := "<init>", desc := "()V" } : Jvm.MethodName) object_method_1_code (1 : Nat) (Option.none : Option Jvm.ClassFile.FieldType)).before args0 about1 = true := code_word (m := ⟨0, 0⟩) (meth := k0m0) (c := k0c0) (by decide +kernel) rfl rfl rfl (by decide +kernel)
set_option maxRecDepth 65536 in
theorem w_c4 : (Jvm.Cond.code ({ cls := "java/lang/StringUTF16", name := "compress", desc := "([CII)[B" } : Jvm.MethodName) jdk_52_method_16_code (6 : Nat) (Option.some (Jvm.ClassFile.FieldType.array Jvm.ClassFile.FieldType.byte))).before args0 about1 = true := code_word (m := ⟨8, 2⟩) (meth := k8m2) (c := k8c2) (by decide +kernel) rfl rfl rfl (by decide +kernel)
set_option maxRecDepth 65536 in
theorem w_c5 : (Jvm.Cond.code ({ cls := "java/lang/StringUTF16", name := "compress", desc := "([CI[BII)I" } : Jvm.MethodName) jdk_52_method_21_code (7 : Nat) (Option.some Jvm.ClassFile.FieldType.int)).before args0 about1 = true := code_word (m := ⟨8, 3⟩) (meth := k8m3) (c := k8c3) (by decide +kernel) rfl rfl rfl (by decide +kernel)
set_option maxRecDepth 65536 in
theorem w_c6 : (Jvm.Cond.code ({ cls := "java/lang/StringUTF16", name := "coderFromArrayLen", desc := "([BI)B" } : Jvm.MethodName) jdk_52_method_15_code (2 : Nat) (Option.some Jvm.ClassFile.FieldType.byte)).before args0 about1 = true := code_word (m := ⟨8, 1⟩) (meth := k8m1) (c := k8c1) (by decide +kernel) rfl rfl rfl (by decide +kernel)
set_option maxRecDepth 65536 in
theorem w_c7 : (Jvm.Cond.code ({ cls := "rootzone/Bound", name := "positive", desc := "()Lrootzone/Bound;" } : Jvm.MethodName) prog_1_method_7_code (0 : Nat) (Option.some (Jvm.ClassFile.FieldType.object "rootzone/Bound"))).before args0 about1 = true := code_word (m := ⟨9, 1⟩) (meth := k9m1) (c := k9c1) (by decide +kernel) rfl rfl rfl (by decide +kernel)
set_option maxRecDepth 65536 in
theorem w_c8 : (Jvm.Cond.code ({ cls := "rootzone/Bound", name := "<init>", desc := "(DZLjava/lang/String;DZLjava/lang/String;)V" } : Jvm.MethodName) prog_1_method_1_code (9 : Nat) (Option.none : Option Jvm.ClassFile.FieldType)).before args0 about1 = true := code_word (m := ⟨9, 0⟩) (meth := k9m0) (c := k9c0) (by decide +kernel) rfl rfl rfl (by decide +kernel)
set_option maxRecDepth 65536 in
theorem w_c9 : (Jvm.Cond.code ({ cls := "rootzone/Bound", name := "checkGiven", desc := "(Ljava/lang/String;D)D" } : Jvm.MethodName) prog_1_method_10_code (6 : Nat) (Option.some Jvm.ClassFile.FieldType.double)).before args0 about1 = true := code_word (m := ⟨9, 3⟩) (meth := k9m3) (c := k9c3) (by decide +kernel) rfl rfl rfl (by decide +kernel)
set_option maxRecDepth 65536 in
theorem w_c10 : (Jvm.Cond.code ({ cls := "rootzone/Bound", name := "check", desc := "(Ljava/lang/String;D)D" } : Jvm.MethodName) prog_1_method_9_code (4 : Nat) (Option.some Jvm.ClassFile.FieldType.double)).before args0 about1 = true := code_word (m := ⟨9, 2⟩) (meth := k9m2) (c := k9c2) (by decide +kernel) rfl rfl rfl (by decide +kernel)
set_option maxRecDepth 65536 in
theorem w_c11 : (Jvm.Cond.code ({ cls := "java/lang/Double", name := "isNaN", desc := "(D)Z" } : Jvm.MethodName) jdk_117_method_6_code (2 : Nat) (Option.some Jvm.ClassFile.FieldType.boolean)).before args0 about1 = true := code_word (m := ⟨11, 0⟩) (meth := k11m0) (c := k11c0) (by decide +kernel) rfl rfl rfl (by decide +kernel)
def codes1 : List Jvm.Cond := [Jvm.Cond.code x code maxLocals ret, Jvm.Cond.code ({ cls := "java/lang/String", name := "<init>", desc := "([C)V" } : Jvm.MethodName) jdk_42_method_3_code (2 : Nat) (Option.none : Option Jvm.ClassFile.FieldType), Jvm.Cond.code ({ cls := "java/lang/String", name := "<init>", desc := "([CIILjava/lang/Void;)V" } : Jvm.MethodName) jdk_42_method_149_code (6 : Nat) (Option.none : Option Jvm.ClassFile.FieldType), Jvm.Cond.code ({ cls := "java/lang/Object", name := "<init>", desc := "()V" } : Jvm.MethodName) object_method_1_code (1 : Nat) (Option.none : Option Jvm.ClassFile.FieldType), Jvm.Cond.code ({ cls := "java/lang/StringUTF16", name := "compress", desc := "([CII)[B" } : Jvm.MethodName) jdk_52_method_16_code (6 : Nat) (Option.some (Jvm.ClassFile.FieldType.array Jvm.ClassFile.FieldType.byte)), Jvm.Cond.code ({ cls := "java/lang/StringUTF16", name := "compress", desc := "([CI[BII)I" } : Jvm.MethodName) jdk_52_method_21_code (7 : Nat) (Option.some Jvm.ClassFile.FieldType.int), Jvm.Cond.code ({ cls := "java/lang/StringUTF16", name := "coderFromArrayLen", desc := "([BI)B" } : Jvm.MethodName) jdk_52_method_15_code (2 : Nat) (Option.some Jvm.ClassFile.FieldType.byte), Jvm.Cond.code ({ cls := "rootzone/Bound", name := "positive", desc := "()Lrootzone/Bound;" } : Jvm.MethodName) prog_1_method_7_code (0 : Nat) (Option.some (Jvm.ClassFile.FieldType.object "rootzone/Bound")), Jvm.Cond.code ({ cls := "rootzone/Bound", name := "<init>", desc := "(DZLjava/lang/String;DZLjava/lang/String;)V" } : Jvm.MethodName) prog_1_method_1_code (9 : Nat) (Option.none : Option Jvm.ClassFile.FieldType), Jvm.Cond.code ({ cls := "rootzone/Bound", name := "checkGiven", desc := "(Ljava/lang/String;D)D" } : Jvm.MethodName) prog_1_method_10_code (6 : Nat) (Option.some Jvm.ClassFile.FieldType.double), Jvm.Cond.code ({ cls := "rootzone/Bound", name := "check", desc := "(Ljava/lang/String;D)D" } : Jvm.MethodName) prog_1_method_9_code (4 : Nat) (Option.some Jvm.ClassFile.FieldType.double), Jvm.Cond.code ({ cls := "java/lang/Double", name := "isNaN", desc := "(D)Z" } : Jvm.MethodName) jdk_117_method_6_code (2 : Nat) (Option.some Jvm.ClassFile.FieldType.boolean)]
set_option maxRecDepth 65536 in
theorem codes_eq : words1.filter isCode = codes1 := rfl
theorem w_codes : ∀ c ∈ words1.filter isCode, c.before args0 about1 = true := by
  rw [codes_eq]
  intro c hc
  simp only [codes1, List.mem_cons, List.not_mem_nil, or_false] at hc
  rcases hc with rfl | rfl | rfl | rfl | rfl | rfl | rfl | rfl | rfl | rfl | rfl | rfl
  · exact w_c0
  · exact w_c1
  · exact w_c2
  · exact w_c3
  · exact w_c4
  · exact w_c5
  · exact w_c6
  · exact w_c7
  · exact w_c8
  · exact w_c9
  · exact w_c10
  · exact w_c11
set_option maxRecDepth 65536 in
theorem w_t1 : (words1.take 24).all (fun c => isCode c || c.before args0 about1) = true := by decide +kernel
set_option maxRecDepth 65536 in
theorem w_t2 : ((words1.drop 24).take 24).all (fun c => isCode c || c.before args0 about1) = true := by decide +kernel
set_option maxRecDepth 65536 in
theorem w_t3 : (((words1.drop 24).drop 24).take 24).all (fun c => isCode c || c.before args0 about1) = true := by decide +kernel
set_option maxRecDepth 65536 in
theorem w_t4 : (((words1.drop 24).drop 24).drop 24).all (fun c => isCode c || c.before args0 about1) = true := by decide +kernel
theorem w_tables : (allAtoms (Jvm.Cond.code x code maxLocals ret :: tables_1)).before args0 about1 = true := by
  rw [allAtoms_all]
  show words1.all (fun c => c.before args0 about1) = true
  refine all_split ?_ w_codes
  rw [← List.take_append_drop 24 words1, List.all_append, w_t1, ← List.take_append_drop 24 (words1.drop 24), List.all_append, w_t2, ← List.take_append_drop 24 ((words1.drop 24).drop 24), List.all_append, w_t3, w_t4]
  rfl
set_option maxRecDepth 65536 in
theorem w_rest : rest_1_c.before args0 about1 = true := by decide +kernel
set_option maxRecDepth 65536 in
theorem w_case : (Jvm.Cond.and given_1 narrow_1).before args0 about1 = true := by decide +kernel
theorem w_applies : (headSpec (Jvm.Cond.code x code maxLocals ret :: tables_1) room_1).applies x e0.platform about1 = true :=
  (Spec.applies_iff w_frames).mpr ⟨w_running, w_runnable, w_alone, w_named, w_hears, w_ripe, w_room, w_tables⟩
theorem atStart : AtStart classFile x code maxLocals ret World_1 tables_1 room_1 Calls_1 rest_1 Pre_1 launch0 p0 e0 about1 theMethod args0 below0 :=
  ⟨lists_1, trivial, launch0.admits_env _ _ _, launch0.least_env, fairChoices_fair.cas, fairChoices_fair.clock, w_frames, w_args, w_heap, w_applies, trivial, w_rest, w_case⟩
end start1
theorem witness_1 : WitnessClaimed_1 := ⟨start1.p0, start1.e0, start1.about1, start1.theMethod, start1.args0, start1.below0, start1.atStart⟩
end Jvm.Pilot.@@N@@
