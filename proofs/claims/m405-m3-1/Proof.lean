import JvmDerived
import JvmDerived.Pilot.@@N@@Statement
import JvmDerived.Pilot.@@N@@Code
set_option linter.unusedVariables false
set_option linter.unusedSimpArgs false
@@BLOCK:NumsL.lean.txt@@
namespace Jvm.Pilot.@@N@@
open Jvm Jvm.ClassFile Sem Op Lib Jvm.Free Jvm.Stand Jvm.LawKit Jvm.RoadKit Bundle Jvm.Pilot.@@N@@.Jvm.D
open Jvm.Free.Fl (NoNaN64 Fin64 Nz64)
theorem own_lt_ne {a b n : Nat} (h : a < n) (g : b = n) : a ≠ b := by omega
theorem own_lt_ne2 {a b n : Nat} (h : a < n) (g : n ≤ b) : a ≠ b := by omega
theorem own_ge_of {k b n : Nat} (h : k ≤ n) (g : b = n) : k ≤ b := by omega
abbrev uu : Slot := .unset
abbrev ss : Slot := .second
abbrev vi (x : Int32) : Slot := .val (.int x)
abbrev vj (x : Int64) : Slot := .val (.long x)
abbrev vd (x : UInt64) : Slot := .val (.double x)
abbrev vr (x : Addr) : Slot := .val (.ref x)
/-- whatever is reached from here is reached from E -/
abbrev own_G (p : Program) (e : Env) (below : List Frame) (E T : State) (g : JFrame) : Prop := ∀ t, Steps p.tables e below (T.setTop g) t → Steps p.tables e below E t
theorem own_if_eqY {x : Int32} (h : x = 0) : ifCond.holds .eq x = true := by subst h; rfl
theorem own_if_eqN {x : Int32} (h : ¬ x = 0) : ifCond.holds .eq x = false := beq_false_of_ne h
theorem own_if_neY {x : Int32} (h : ¬ x = 0) : ifCond.holds .ne x = true := bne_iff_ne.mpr h
theorem own_if_neN {x : Int32} (h : x = 0) : ifCond.holds .ne x = false := by subst h; rfl
theorem own_if_ltY {x : Int32} (h : x < 0) : ifCond.holds .lt x = true := decide_eq_true h
theorem own_if_ltN {x : Int32} (h : ¬ x < 0) : ifCond.holds .lt x = false := decide_eq_false h
theorem own_if_geY {x : Int32} (h : ¬ x < 0) : ifCond.holds .ge x = true := decide_eq_true (Int32.not_lt.mp h)
theorem own_if_geN {x : Int32} (h : x < 0) : ifCond.holds .ge x = false := decide_eq_false (fun q => Int32.not_le.mpr h q)
theorem own_if_gtY {x : Int32} (h : 0 < x) : ifCond.holds .gt x = true := decide_eq_true h
theorem own_if_gtN {x : Int32} (h : ¬ 0 < x) : ifCond.holds .gt x = false := decide_eq_false h
theorem own_if_leY {x : Int32} (h : ¬ 0 < x) : ifCond.holds .le x = true := decide_eq_true (Int32.not_lt.mp h)
theorem own_if_leN {x : Int32} (h : 0 < x) : ifCond.holds .le x = false := decide_eq_false (fun q => Int32.not_le.mpr h q)
theorem own_ic_eqY {x y : Int32} (h : x = y) : if_icmp.holds .eq x y = true := beq_iff_eq.mpr h
theorem own_ic_eqN {x y : Int32} (h : ¬ x = y) : if_icmp.holds .eq x y = false := beq_false_of_ne h
theorem own_ic_neY {x y : Int32} (h : ¬ x = y) : if_icmp.holds .ne x y = true := bne_iff_ne.mpr h
theorem own_ic_neN {x y : Int32} (h : x = y) : if_icmp.holds .ne x y = false := by subst h; exact bne_self_eq_false x
theorem own_ic_ltY {x y : Int32} (h : x < y) : if_icmp.holds .lt x y = true := decide_eq_true h
theorem own_ic_ltN {x y : Int32} (h : ¬ x < y) : if_icmp.holds .lt x y = false := decide_eq_false h
theorem own_ic_geY {x y : Int32} (h : ¬ x < y) : if_icmp.holds .ge x y = true := decide_eq_true (Int32.not_lt.mp h)
theorem own_ic_geN {x y : Int32} (h : x < y) : if_icmp.holds .ge x y = false := decide_eq_false (fun q => Int32.not_le.mpr h q)
theorem own_ic_gtY {x y : Int32} (h : y < x) : if_icmp.holds .gt x y = true := decide_eq_true h
theorem own_ic_gtN {x y : Int32} (h : ¬ y < x) : if_icmp.holds .gt x y = false := decide_eq_false h
theorem own_ic_leY {x y : Int32} (h : ¬ y < x) : if_icmp.holds .le x y = true := decide_eq_true (Int32.not_lt.mp h)
theorem own_ic_leN {x y : Int32} (h : y < x) : if_icmp.holds .le x y = false := decide_eq_false (fun q => Int32.not_le.mpr h q)
/-- what a comparison of two whole or scaled values pushes -/
def own_c (i j : Int) : Int32 := if i < j then -1 else if i = j then 0 else 1
theorem own_cE (o : CmpOp) {x y : UInt64} {i j : Int} (h : FP.dcmp x y = some (compare i j)) : cmpValue (FP.dcmp x y) o = own_c i j := by
  rw [h, FP.Core.compare_ite, own_c]
  by_cases h1 : i < j
  · rw [if_pos h1, if_pos h1]; cases o <;> rfl
  · rw [if_neg h1, if_neg h1]
    by_cases h2 : i = j
    · rw [if_pos h2, if_pos h2]; cases o <;> rfl
    · rw [if_neg h2, if_neg h2]; cases o <;> rfl
theorem own_c_lt {i j : Int} (h : i < j) : own_c i j = -1 := by rw [own_c, if_pos h]
theorem own_c_eq {i j : Int} (h : i = j) : own_c i j = 0 := by rw [own_c, if_neg (by omega), if_pos h]
theorem own_c_gt {i j : Int} (h : j < i) : own_c i j = 1 := by rw [own_c, if_neg (by omega), if_neg (by omega)]
theorem own_c_cases (i j : Int) : (i < j ∧ own_c i j = -1) ∨ (i = j ∧ own_c i j = 0) ∨ (j < i ∧ own_c i j = 1) := by
  rcases Int.lt_trichotomy i j with h | h | h
  · exact Or.inl ⟨h, own_c_lt h⟩
  · exact Or.inr (Or.inl ⟨h, own_c_eq h⟩)
  · exact Or.inr (Or.inr ⟨h, own_c_gt h⟩)
theorem own_c_ltY {i j : Int} (h : i < j) : ifCond.holds .lt (own_c i j) = true := by rw [own_c_lt h]; rfl
theorem own_c_ltN {i j : Int} (h : ¬ i < j) : ifCond.holds .lt (own_c i j) = false := by rcases own_c_cases i j with q | q | q <;> first | exact absurd q.1 h | (rw [q.2]; rfl)
theorem own_c_geY {i j : Int} (h : ¬ i < j) : ifCond.holds .ge (own_c i j) = true := by rcases own_c_cases i j with q | q | q <;> first | exact absurd q.1 h | (rw [q.2]; rfl)
theorem own_c_geN {i j : Int} (h : i < j) : ifCond.holds .ge (own_c i j) = false := by rw [own_c_lt h]; rfl
theorem own_c_gtY {i j : Int} (h : j < i) : ifCond.holds .gt (own_c i j) = true := by rw [own_c_gt h]; rfl
theorem own_c_gtN {i j : Int} (h : ¬ j < i) : ifCond.holds .gt (own_c i j) = false := by rcases own_c_cases i j with q | q | q <;> first | exact absurd q.1 h | (rw [q.2]; rfl)
theorem own_c_leY {i j : Int} (h : ¬ j < i) : ifCond.holds .le (own_c i j) = true := by rcases own_c_cases i j with q | q | q <;> first | exact absurd q.1 h | (rw [q.2]; rfl)
theorem own_c_leN {i j : Int} (h : j < i) : ifCond.holds .le (own_c i j) = false := by rw [own_c_gt h]; rfl
theorem own_c_eqY {i j : Int} (h : i = j) : ifCond.holds .eq (own_c i j) = true := by rw [own_c_eq h]; rfl
theorem own_c_eqN {i j : Int} (h : ¬ i = j) : ifCond.holds .eq (own_c i j) = false := by rcases own_c_cases i j with q | q | q <;> first | exact absurd q.1 h | (rw [q.2]; rfl)
theorem own_c_neY {i j : Int} (h : ¬ i = j) : ifCond.holds .ne (own_c i j) = true := by rcases own_c_cases i j with q | q | q <;> first | exact absurd q.1 h | (rw [q.2]; rfl)
theorem own_c_neN {i j : Int} (h : i = j) : ifCond.holds .ne (own_c i j) = false := by rw [own_c_eq h]; rfl
theorem own_l_lt {i j : Int64} (h : i < j) : XT.cmpL i j = -1 := by
  rw [XT.cmpL, if_neg (fun q => Int64.lt_irrefl (Int64.lt_trans h q)), if_neg (fun q => Int64.lt_irrefl (q ▸ h))]
theorem own_l_eq {i j : Int64} (h : i = j) : XT.cmpL i j = 0 := by subst h; rw [XT.cmpL, if_neg Int64.lt_irrefl, if_pos rfl]
theorem own_l_gt {i j : Int64} (h : j < i) : XT.cmpL i j = 1 := by rw [XT.cmpL, if_pos h]
theorem own_l_cases (i j : Int64) : (i < j ∧ XT.cmpL i j = -1) ∨ (i = j ∧ XT.cmpL i j = 0) ∨ (j < i ∧ XT.cmpL i j = 1) := by
  by_cases h : i < j
  · exact Or.inl ⟨h, own_l_lt h⟩
  · by_cases h2 : i = j
    · exact Or.inr (Or.inl ⟨h2, own_l_eq h2⟩)
    · have h3 : j < i := by
        rw [Int64.lt_iff_toInt_lt] at h ⊢
        have h4 : i.toInt ≠ j.toInt := fun q => h2 (Int64.toInt_inj.mp q)
        omega
      exact Or.inr (Or.inr ⟨h3, own_l_gt h3⟩)
theorem own_l_ltY {i j : Int64} (h : i < j) : ifCond.holds .lt (XT.cmpL i j) = true := by rw [own_l_lt h]; rfl
theorem own_l_ltN {i j : Int64} (h : ¬ i < j) : ifCond.holds .lt (XT.cmpL i j) = false := by rcases own_l_cases i j with q | q | q <;> first | exact absurd q.1 h | (rw [q.2]; rfl)
theorem own_l_geY {i j : Int64} (h : ¬ i < j) : ifCond.holds .ge (XT.cmpL i j) = true := by rcases own_l_cases i j with q | q | q <;> first | exact absurd q.1 h | (rw [q.2]; rfl)
theorem own_l_geN {i j : Int64} (h : i < j) : ifCond.holds .ge (XT.cmpL i j) = false := by rw [own_l_lt h]; rfl
theorem own_l_gtY {i j : Int64} (h : j < i) : ifCond.holds .gt (XT.cmpL i j) = true := by rw [own_l_gt h]; rfl
theorem own_l_gtN {i j : Int64} (h : ¬ j < i) : ifCond.holds .gt (XT.cmpL i j) = false := by rcases own_l_cases i j with q | q | q <;> first | exact absurd q.1 h | (rw [q.2]; rfl)
theorem own_l_leY {i j : Int64} (h : ¬ j < i) : ifCond.holds .le (XT.cmpL i j) = true := by rcases own_l_cases i j with q | q | q <;> first | exact absurd q.1 h | (rw [q.2]; rfl)
theorem own_l_leN {i j : Int64} (h : j < i) : ifCond.holds .le (XT.cmpL i j) = false := by rw [own_l_gt h]; rfl
theorem own_l_eqY {i j : Int64} (h : i = j) : ifCond.holds .eq (XT.cmpL i j) = true := by rw [own_l_eq h]; rfl
theorem own_l_eqN {i j : Int64} (h : ¬ i = j) : ifCond.holds .eq (XT.cmpL i j) = false := by rcases own_l_cases i j with q | q | q <;> first | exact absurd q.1 h | (rw [q.2]; rfl)
theorem own_l_neY {i j : Int64} (h : ¬ i = j) : ifCond.holds .ne (XT.cmpL i j) = true := by rcases own_l_cases i j with q | q | q <;> first | exact absurd q.1 h | (rw [q.2]; rfl)
theorem own_l_neN {i j : Int64} (h : i = j) : ifCond.holds .ne (XT.cmpL i j) = false := by rw [own_l_eq h]; rfl
theorem own_ac_eq_Y {x y : Value} (h : x = y) : XT.acmp .eq x y = true := decide_eq_true h
theorem own_ac_eq_N {x y : Value} (h : ¬ x = y) : XT.acmp .eq x y = false := decide_eq_false h
theorem own_ac_ne_Y {x y : Value} (h : ¬ x = y) : XT.acmp .ne x y = true := decide_eq_true h
theorem own_ac_ne_N {x y : Value} (h : x = y) : XT.acmp .ne x y = false := decide_eq_false (fun q => q h)
theorem own_ar_eq_Y {x y : Addr} (h : x = y) : XT.acmp .eq (.ref x) (.ref y) = true := own_ac_eq_Y (congrArg Value.ref h)
theorem own_ar_eq_N {x y : Addr} (h : ¬ x = y) : XT.acmp .eq (.ref x) (.ref y) = false := own_ac_eq_N (fun q => h (Value.ref.inj q))
theorem own_ar_ne_Y {x y : Addr} (h : ¬ x = y) : XT.acmp .ne (.ref x) (.ref y) = true := own_ac_ne_Y (fun q => h (Value.ref.inj q))
theorem own_ar_ne_N {x y : Addr} (h : x = y) : XT.acmp .ne (.ref x) (.ref y) = false := own_ac_ne_N (congrArg Value.ref h)
/-- a static's object's field that the case names by a number -/
theorem own_ord {args : Array Value} {s : State} {t : Term} {C n d : String} {k : Int32} {x : Addr} (ev : t.eval args s none [] s = some (.ref x))
    (h : (Jvm.Cond.eq (Term.field t C n d) (Term.int k)).value args s none s [] = some true) : s.fieldOf? x C n d = some (.int k) := by
  obtain ⟨v, u, e1, e2, k1, k2⟩ := cmp_v (Or.inl h)
  have e3 : u = .int k := by have := (Term.int_eval (args := args) (first := s) (o := none) (idx := []) (s := s) k).symm.trans e2; exact (Option.some.inj this).symm
  subst e3
  obtain ⟨z, rfl⟩ := k2
  have q := gotT (Cond.eq_ints e1 e2) h
  rw [← fld_at ev, e1, q]
end Jvm.Pilot.@@N@@
/- laws to paste: Road.backV (cut by pick.py; bodies as the Statement names them) -/
namespace Jvm.Pilot.@@N@@
namespace StrChars
open Jvm Sem ClassFile Op Lib Jvm.Stand Jvm.Free.XT Jvm.Free.ALB Jvm.Free.JM Jvm.Free
open Jvm.Lib.Cold (StaticIs)
/-- a char array whose places are chars -/
def Ch (a : Addr) (A : Cell) (U : State) : Prop := Arr .char a A U ∧ Typed .char A
theorem Ch.mv {a : Addr} {A : Cell} {U U' : State} (h : Ch a A U) (hal : U.vm.Alike U'.vm) (hh : U'.heap = U.heap) : Ch a A U' := ⟨h.1.mv hal hh, h.2⟩
theorem Ch.keep {a : Addr} {A : Cell} {U U' : State} (h : Ch a A U) (hal : U.vm.Alike U'.vm) (hk : U'.heap[a]? = some A) : Ch a A U' := ⟨h.1.keep hal hk, h.2⟩
/-- what place i of a char[]'s cell holds -/
def cv (A : Cell) (i : Nat) : Int32 := match A.slots[i]? with | some (.int x) => x | _ => 0
theorem Ch.get {a : Addr} {A : Cell} {U : State} (h : Ch a A U) {i : Nat} (hi : i < A.slots.size) : A.slots[i]? = some (.int (cv A i)) := by
  have e := Array.getElem?_eq_getElem hi
  have f := h.2 i _ e
  unfold cv; rw [e]
  generalize A.slots[i] = v at f
  cases v <;> simp [fits] at f ⊢
/-- the byte that i2b leaves of a char -/
def lo8 (x : Int32) : Int32 := x.toInt8.toInt32
theorem fits_lo8 (y : Int32) : fits .byte (.int (lo8 y)) = true := by
  have h1 := y.toInt8.le_toInt
  have h2 := y.toInt8.toInt_lt
  simp only [lo8, fits, Bool.and_eq_true, decide_eq_true_eq, Int32.le_iff_toInt_le, Int8.toInt_toInt32, show (-128 : Int32).toInt = -128 from by decide, show (127 : Int32).toInt = 127 from by decide]
  omega
/-- A' is A but that each place j of lo .. hi - 1 holds f j -/
def Laid (A A' : Cell) (lo hi : Nat) (f : Nat → Value) : Prop := A'.cls = A.cls ∧ A'.vm = A.vm ∧ A'.slots.size = A.slots.size ∧ ∀ i, A'.slots[i]? = if lo ≤ i ∧ i < hi then some (f i) else A.slots[i]?
theorem Laid.zero (A : Cell) (lo : Nat) (f : Nat → Value) : Laid A A lo (lo + 0) f := ⟨rfl, rfl, rfl, fun i => by rw [if_neg (by omega)]⟩
theorem Laid.step {A Ak : Cell} {lo k : Nat} {f : Nat → Value} {v : Value} (h : Laid A Ak lo k f) (hlo : lo ≤ k) (hk : k < Ak.slots.size) (hv : v = f k) : Laid A (Ak.setSlot k v) lo (k + 1) f := by
  refine ⟨h.1, h.2.1, by simpa [Cell.setSlot] using h.2.2.1, fun i => ?_⟩
  by_cases e : k = i
  · subst e; rw [Cell.slots_setSlot_self v hk, if_pos (by omega), hv]
  · rw [Cell.slots_setSlot_ne v e, h.2.2.2 i]
    by_cases q : lo ≤ i ∧ i < k
    · rw [if_pos q, if_pos (by omega)]
    · rw [if_neg q, if_neg (by omega)]
def U16 : String := "java/lang/StringUTF16"
namespace Cmp5
def yN : MethodName := ⟨"java/lang/StringUTF16", "compress", "([CI[BII)I"⟩
abbrev yB : ByteArray := jdk_52_method_21_code
theorem d0 : decode yB 0 = .ok (.iconst 0, 1) := by decide +kernel
theorem d1 : decode yB 1 = .ok (.istore 5, 2) := by decide +kernel
theorem d3 : decode yB 3 = .ok (.iload 5, 2) := by decide +kernel
theorem d5 : decode yB 5 = .ok (.iload 4, 2) := by decide +kernel
theorem d7 : decode yB 7 = .ok (.if_icmp (.ge) 37, 3) := by decide +kernel
theorem d10 : decode yB 10 = .ok (.aload_n 0, 1) := by decide +kernel
theorem d11 : decode yB 11 = .ok (.iload_n 1, 1) := by decide +kernel
theorem d12 : decode yB 12 = .ok (.caload, 1) := by decide +kernel
theorem d13 : decode yB 13 = .ok (.istore 6, 2) := by decide +kernel
theorem d15 : decode yB 15 = .ok (.iload 6, 2) := by decide +kernel
theorem d17 : decode yB 17 = .ok (.sipush 255, 3) := by decide +kernel
theorem d20 : decode yB 20 = .ok (.if_icmp (.le) 6, 3) := by decide +kernel
theorem d26 : decode yB 26 = .ok (.aload_n 2, 1) := by decide +kernel
theorem d27 : decode yB 27 = .ok (.iload_n 3, 1) := by decide +kernel
theorem d28 : decode yB 28 = .ok (.iload 6, 2) := by decide +kernel
theorem d30 : decode yB 30 = .ok (.i2b, 1) := by decide +kernel
theorem d31 : decode yB 31 = .ok (.bastore, 1) := by decide +kernel
theorem d32 : decode yB 32 = .ok (.iinc 1 1, 3) := by decide +kernel
theorem d35 : decode yB 35 = .ok (.iinc 3 1, 3) := by decide +kernel
theorem d38 : decode yB 38 = .ok (.iinc 5 1, 3) := by decide +kernel
theorem d41 : decode yB 41 = .ok (.goto (-38), 3) := by decide +kernel
theorem d44 : decode yB 44 = .ok (.iload 4, 2) := by decide +kernel
theorem d46 : decode yB 46 = .ok (.ireturn, 1) := by decide +kernel
def site : List Cond := []
def tab : Cond := tabOf yN yB 7 (some .int) site
def P (b : Addr) (A : Cell) (d : Addr) (B : Cell) (o q len : Nat) (args : Array Value) (s : State) : Prop := args = #[.ref b, .int (Int32.ofNat o), .ref d, .int (Int32.ofNat q), .int (Int32.ofNat len)] ∧ Ch b A s ∧ Arr .byte d B s ∧ b ≠ d ∧ o + len ≤ A.slots.size ∧ q + len ≤ B.slots.size ∧ ∀ i, i < len → ¬ 255 < cv A (o + i)
def E (b : Addr) (A : Cell) (d : Addr) (B : Cell) (o q len : Nat) (r : Option Value) (s u : State) : Prop := r = some (.int (Int32.ofNat len)) ∧ ∃ B', Put d B' s u ∧ Laid B B' q (q + len) (fun j => Value.int (lo8 (cv A (o + (j - q)))))
/-- no char of the range above 255: len; the places written hold each char's low byte -/
theorem law (l : Launch) (b : Addr) (A : Cell) (d : Addr) (B : Cell) (o q len : Nat) : Law l yN 5 5 0 0 yB 7 (some .int) site (P b A d B o q len) (E b A d B o q len) (copyLocs d q len) 0 0 := by
  refine Law.of_walk (plainFor_of_name (by decide +kernel)) (by decide +kernel) (by decide +kernel) (by decide) (fun _ _ h => by rw [h.1]; rfl) (fun _ U U' hal hh h => ⟨h.1, h.2.1.mv hal hh, h.2.2.1.mv hal hh, h.2.2.2⟩) (fun r U U' V V' h1 hal h2 h => ⟨h.1, h.2.elim fun B' q => ⟨B', q.1.mv h1 h2, q.2⟩⟩) ?_
  intro p e s m args below meth c s₁ X0 hexec hbytes hml hret hlk hnm hown hh0 W hP
  obtain ⟨rfl, hA, hB, hne, l1, l2, hp⟩ := hP
  have c1 : Steps p.tables e below (s₁.setTop (entryFrame m #[.ref b, .int (Int32.ofNat o), .ref d, .int (Int32.ofNat q), .int (Int32.ofNat len)] 7)) (s₁.setTop (mkF m 0 #[.val (.ref b), .val (.int (Int32.ofNat o)), .val (.ref d), .val (.int (Int32.ofNat q)), .val (.int (Int32.ofNat len)), .unset, .unset] [])) := entry rfl
  have hA0 := hA.1.mv X0.warmed.alike hh0
  have hB0 := hB.mv X0.warmed.alike hh0
  have a31 := hA.1.2.2.2
  have c2 : Steps p.tables e below (s₁.setTop (entryFrame m #[.ref b, .int (Int32.ofNat o), .ref d, .int (Int32.ofNat q), .int (Int32.ofNat len)] 7)) (s₁.setTop (mkF m 3 #[.val (.ref b), .val (.int (Int32.ofNat o)), .val (.ref d), .val (.int (Int32.ofNat q)), .val (.int (Int32.ofNat len)), .val (.int 0), .unset] [])) := c1.trans (by
    refine iconstV X0.here hexec rfl 0 (hb hbytes d0) (by decide) ?_
    refine XS.istore X0.here hexec rfl (hb hbytes d1) rfl rfl ?_
    exact Steps.refl _)
  have loop : ∀ (r i : Nat), i + r = len → ∀ (z : Slot), (z = .unset ∨ ∃ w, z = .val w ∧ w.category = 1) → ∀ (Tl : State) (Bk : Cell), Stand p l e { frames := 0, locals := 0, cells := 0, slots := 0 } s m #[.ref b, .int (Int32.ofNat o), .ref d, .int (Int32.ofNat q), .int (Int32.ofNat len)] below meth c Tl ([] ++ copyLocs d q i) 0 0 → Put d Bk s₁ Tl → Laid B Bk q (q + i) (fun j => Value.int (lo8 (cv A (o + (j - q))))) →
      Steps p.tables e below (s₁.setTop (entryFrame m #[.ref b, .int (Int32.ofNat o), .ref d, .int (Int32.ofNat q), .int (Int32.ofNat len)] 7)) (Tl.setTop (mkF m 3 #[.val (.ref b), .val (.int (Int32.ofNat (o + i))), .val (.ref d), .val (.int (Int32.ofNat (q + i))), .val (.int (Int32.ofNat len)), .val (.int (Int32.ofNat i)), z] [])) → ∃ (T' : State) (B' : Cell) (z' : Slot), Stand p l e { frames := 0, locals := 0, cells := 0, slots := 0 } s m #[.ref b, .int (Int32.ofNat o), .ref d, .int (Int32.ofNat q), .int (Int32.ofNat len)] below meth c T' ([] ++ copyLocs d q len) 0 0 ∧ Put d B' s₁ T' ∧ Laid B B' q (q + len) (fun j => Value.int (lo8 (cv A (o + (j - q))))) ∧
      Steps p.tables e below (s₁.setTop (entryFrame m #[.ref b, .int (Int32.ofNat o), .ref d, .int (Int32.ofNat q), .int (Int32.ofNat len)] 7)) (T'.setTop (mkF m 3 #[.val (.ref b), .val (.int (Int32.ofNat (o + len))), .val (.ref d), .val (.int (Int32.ofNat (q + len))), .val (.int (Int32.ofNat len)), .val (.int (Int32.ofNat len)), z'] [])) := by
    intro r
    induction r with
    | zero =>
      intro i hi z hz Tl Bk Xl pl fl cl
      have hil : i = len := by omega
      rw [hil] at Xl fl cl
      exact ⟨Tl, Bk, z, Xl, pl, fl, cl⟩
    | succ r ih =>
      intro i hi z hz Tl Bk Xl pl fl cl
      have all := X0.warmed.alike.symm.trans Xl.warmed.alike
      have hAl := hA0.keep all (pl.other hne hA0.1)
      have hBk := hB0.like all pl.1 fl.1 fl.2.1 fl.2.2.1
      have hlt : q + i < Bk.slots.size := by rw [fl.2.2.1]; omega
      have c3 : Steps p.tables e below (s₁.setTop (entryFrame m #[.ref b, .int (Int32.ofNat o), .ref d, .int (Int32.ofNat q), .int (Int32.ofNat len)] 7)) (Tl.setTop (mkF m 12 #[.val (.ref b), .val (.int (Int32.ofNat (o + i))), .val (.ref d), .val (.int (Int32.ofNat (q + i))), .val (.int (Int32.ofNat len)), .val (.int (Int32.ofNat i)), z] [.int (Int32.ofNat (o + i)), .ref b])) := cl.trans (by
        refine XS.iload Xl.here hexec rfl (hb hbytes d3) rfl ?_
        refine XS.iload Xl.here hexec rfl (hb hbytes d5) rfl ?_
        refine XS.icmpNo Xl.here hexec rfl (hb hbytes d7) rfl (ii_ge_f (lt32 (by omega) (by omega))) ?_
        refine XS.aloadN Xl.here hexec rfl (hb hbytes d10) rfl rfl ?_
        refine XS.iloadN Xl.here hexec rfl (hb hbytes d11) rfl ?_
        exact Steps.refl _)
      have c4 : Steps p.tables e below (s₁.setTop (entryFrame m #[.ref b, .int (Int32.ofNat o), .ref d, .int (Int32.ofNat q), .int (Int32.ofNat len)] 7)) (Tl.setTop (mkF m 13 #[.val (.ref b), .val (.int (Int32.ofNat (o + i))), .val (.ref d), .val (.int (Int32.ofNat (q + i))), .val (.int (Int32.ofNat len)), .val (.int (Int32.ofNat i)), z] [.int (cv A (o + i))])) := c3.trans (by
        refine Xl.aget hexec hAl rfl (hA.get (i := o + i) (by omega)) rfl rfl (hb hbytes d12) ?_
        exact Steps.refl _)
      have c5 : Steps p.tables e below (s₁.setTop (entryFrame m #[.ref b, .int (Int32.ofNat o), .ref d, .int (Int32.ofNat q), .int (Int32.ofNat len)] 7)) (Tl.setTop (mkF m 15 #[.val (.ref b), .val (.int (Int32.ofNat (o + i))), .val (.ref d), .val (.int (Int32.ofNat (q + i))), .val (.int (Int32.ofNat len)), .val (.int (Int32.ofNat i)), .val (.int (cv A (o + i)))] [])) := c4.trans (by
        refine XS.istoreS Xl.here hexec rfl (hb hbytes d13) rfl rfl hz ?_
        exact Steps.refl _)
      have c6 : Steps p.tables e below (s₁.setTop (entryFrame m #[.ref b, .int (Int32.ofNat o), .ref d, .int (Int32.ofNat q), .int (Int32.ofNat len)] 7)) (Tl.setTop (mkF m 31 #[.val (.ref b), .val (.int (Int32.ofNat (o + i))), .val (.ref d), .val (.int (Int32.ofNat (q + i))), .val (.int (Int32.ofNat len)), .val (.int (Int32.ofNat i)), .val (.int (cv A (o + i)))] [.int (lo8 (cv A (o + i))), .int (Int32.ofNat (q + i)), .ref d])) := c5.trans (by
        refine XS.iload Xl.here hexec rfl (hb hbytes d15) rfl ?_
        refine sipushV Xl.here hexec rfl 255 (hb hbytes d17) (by decide) ?_
        refine XS.icmpYes Xl.here hexec rfl (pc0 := 20) rfl (hb hbytes d20) rfl (ii_le_t (hp i (by omega))) (by decide) rfl ?_
        refine XS.aloadN Xl.here hexec rfl (hb hbytes d26) rfl rfl ?_
        refine XS.iloadN Xl.here hexec rfl (hb hbytes d27) rfl ?_
        refine XS.iload Xl.here hexec rfl (hb hbytes d28) rfl ?_
        refine i2b Xl.here hexec rfl (hb hbytes d30) rfl ?_
        exact Steps.refl _)
      obtain ⟨T7, X7, p7, st7⟩ := Xl.aput hexec hBk rfl hlt rfl (fits_lo8 (cv A (o + i))) (g := (mkF m 31 #[.val (.ref b), .val (.int (Int32.ofNat (o + i))), .val (.ref d), .val (.int (Int32.ofNat (q + i))), .val (.int (Int32.ofNat len)), .val (.int (Int32.ofNat i)), .val (.int (cv A (o + i)))] [.int (lo8 (cv A (o + i))), .int (Int32.ofNat (q + i)), .ref d])) rfl (rest := []) rfl (hb hbytes d31)
      have c8 : Steps p.tables e below (s₁.setTop (entryFrame m #[.ref b, .int (Int32.ofNat o), .ref d, .int (Int32.ofNat q), .int (Int32.ofNat len)] 7)) (T7.setTop (mkF m 32 #[.val (.ref b), .val (.int (Int32.ofNat (o + i))), .val (.ref d), .val (.int (Int32.ofNat (q + i))), .val (.int (Int32.ofNat len)), .val (.int (Int32.ofNat i)), .val (.int (cv A (o + i)))] [])) := c6.trans (st7 _ (Steps.refl _))
      have c9 : Steps p.tables e below (s₁.setTop (entryFrame m #[.ref b, .int (Int32.ofNat o), .ref d, .int (Int32.ofNat q), .int (Int32.ofNat len)] 7)) (T7.setTop (mkF m 3 #[.val (.ref b), .val (.int (Int32.ofNat (o + i) + 1)), .val (.ref d), .val (.int (Int32.ofNat (q + i) + 1)), .val (.int (Int32.ofNat len)), .val (.int (Int32.ofNat i + 1)), .val (.int (cv A (o + i)))] [])) := c8.trans (by
        refine iincV X7.here hexec rfl 1 (hb hbytes d32) (by decide) rfl rfl ?_
        refine iincV X7.here hexec rfl 1 (hb hbytes d35) (by decide) rfl rfl ?_
        refine iincV X7.here hexec rfl 1 (hb hbytes d38) (by decide) rfl rfl ?_
        refine XS.goto X7.here hexec rfl (pc0 := 41) rfl (hb hbytes d41) (by decide) rfl ?_
        exact Steps.refl _)
      have c10 : Steps p.tables e below (s₁.setTop (entryFrame m #[.ref b, .int (Int32.ofNat o), .ref d, .int (Int32.ofNat q), .int (Int32.ofNat len)] 7)) (T7.setTop (mkF m 3 #[.val (.ref b), .val (.int (Int32.ofNat (o + (i + 1)))), .val (.ref d), .val (.int (Int32.ofNat (q + (i + 1)))), .val (.int (Int32.ofNat len)), .val (.int (Int32.ofNat (i + 1))), .val (.int (cv A (o + i)))] [])) := by
        have := c9
        rw [succ32, succ32, succ32] at this
        exact this
      exact ih (i + 1) (by omega) _ (Or.inr ⟨_, rfl, rfl⟩) T7 _ (by rw [copyLocs_step, ← List.append_assoc]; exact X7) (pl.trans p7) (fl.step (by omega) hlt (by simp)) c10
  obtain ⟨T9, B9, z9, X9, p9, f9, g9⟩ := loop len 0 (by omega) .unset (Or.inl rfl) s₁ B (by simpa [copyLocs] using X0) ⟨hB0.1, fun _ _ => rfl, rfl⟩ (Laid.zero _ _ _) c2
  have c11 : Steps p.tables e below (s₁.setTop (entryFrame m #[.ref b, .int (Int32.ofNat o), .ref d, .int (Int32.ofNat q), .int (Int32.ofNat len)] 7)) (T9.setTop (mkF m 46 #[.val (.ref b), .val (.int (Int32.ofNat (o + len))), .val (.ref d), .val (.int (Int32.ofNat (q + len))), .val (.int (Int32.ofNat len)), .val (.int (Int32.ofNat len)), z9] [.int (Int32.ofNat len)])) := g9.trans (by
    refine XS.iload X9.here hexec rfl (hb hbytes d3) rfl ?_
    refine XS.iload X9.here hexec rfl (hb hbytes d5) rfl ?_
    refine XS.icmpYes X9.here hexec rfl (pc0 := 7) rfl (hb hbytes d7) rfl (ii_ge_t (nlt32 (by omega) (Nat.le_refl _))) (by decide) rfl ?_
    refine XS.iload X9.here hexec rfl (hb hbytes d44) rfl ?_
    exact Steps.refl _)
  exact ⟨T9, some (.int (Int32.ofNat len)), _, _, _, X9, by simp, rfl, rfl, (fun h => by cases h), ⟨rfl, B9, p9.from hh0, f9⟩, fun fs hl => c11.trans (X9.ireturnOut hexec hret rfl (Or.inl rfl) (hb hbytes d46) hl)⟩
end Cmp5
namespace Cmp3
def yN : MethodName := ⟨"java/lang/StringUTF16", "compress", "([CII)[B"⟩
abbrev yB : ByteArray := jdk_52_method_16_code
theorem d0 : decode yB 0 = .ok (.iload_n 2, 1) := by decide +kernel
theorem d1 : decode yB 1 = .ok (.newarray .byte, 2) := by decide +kernel
theorem d3 : decode yB 3 = .ok (.astore_n 3, 1) := by decide +kernel
theorem d4 : decode yB 4 = .ok (.aload_n 0, 1) := by decide +kernel
theorem d5 : decode yB 5 = .ok (.iload_n 1, 1) := by decide +kernel
theorem d6 : decode yB 6 = .ok (.aload_n 3, 1) := by decide +kernel
theorem d7 : decode yB 7 = .ok (.iconst 0, 1) := by decide +kernel
theorem d8 : decode yB 8 = .ok (.iload_n 2, 1) := by decide +kernel
theorem d9 : decode yB 9 = .ok (.invokestatic 115, 3) := by decide +kernel
theorem d12 : decode yB 12 = .ok (.istore 4, 2) := by decide +kernel
theorem d14 : decode yB 14 = .ok (.iload 4, 2) := by decide +kernel
theorem d16 : decode yB 16 = .ok (.iload_n 2, 1) := by decide +kernel
theorem d17 : decode yB 17 = .ok (.if_icmp (.eq) 40, 3) := by decide +kernel
theorem d57 : decode yB 57 = .ok (.aload_n 3, 1) := by decide +kernel
theorem d58 : decode yB 58 = .ok (.areturn, 1) := by decide +kernel
def site : List Cond := [.arrayClass .byte, Cmp5.tab] ++ staticW U16 115 Cmp5.yN
def tab : Cond := tabOf yN yB 6 (some (.array .byte)) site
def P (b : Addr) (A : Cell) (o len : Nat) (args : Array Value) (s : State) : Prop := args = #[.ref b, .int (Int32.ofNat o), .int (Int32.ofNat len)] ∧ Ch b A s ∧ o + len ≤ A.slots.size ∧ len ≤ 536870912 ∧ ∀ i, i < len → ¬ 255 < cv A (o + i)
def E (b : Addr) (A : Cell) (o len : Nat) (r : Option Value) (s u : State) : Prop := NewArr .byte "[B" len (fun j => .int (lo8 (cv A (o + j)))) r s u ∧ u.heap.size = s.heap.size + 1
/-- no char of the range above 255: a new byte[] of their low bytes -/
theorem law (l : Launch) (b : Addr) (A : Cell) (o len : Nat) : Law l yN 3 3 1 18 yB 6 (some (.array .byte)) site (P b A o len) (E b A o len) [] 1 len := by
  refine Law.of_walk (plainFor_of_name (by decide +kernel)) (by decide +kernel) (by decide +kernel) (by decide) (fun _ _ h => by rw [h.1]; rfl) (fun _ U U' hal hh h => ⟨h.1, h.2.1.mv hal hh, h.2.2⟩) (fun r U U' V V' h1 hal h2 h => ⟨NewArr.mv r U U' V V' h1 hal h2 h.1, by rw [h1, h2]; exact h.2⟩) ?_
  intro p e s m args below meth c s₁ X0 hexec hbytes hml hret hlk hnm hown hh0 W hP
  obtain ⟨rfl, hA, l1, l2, hp⟩ := hP
  have a31 := hA.1.2.2.2
  have c1 : Steps p.tables e below (s₁.setTop (entryFrame m #[.ref b, .int (Int32.ofNat o), .int (Int32.ofNat len)] 6)) (s₁.setTop (mkF m 0 #[.val (.ref b), .val (.int (Int32.ofNat o)), .val (.int (Int32.ofNat len)), .unset, .unset, .unset] [])) := entry rfl
  have c2 : Steps p.tables e below (s₁.setTop (entryFrame m #[.ref b, .int (Int32.ofNat o), .int (Int32.ofNat len)] 6)) (s₁.setTop (mkF m 1 #[.val (.ref b), .val (.int (Int32.ofNat o)), .val (.int (Int32.ofNat len)), .unset, .unset, .unset] [.int (Int32.ofNat len)])) := c1.trans (by
    refine XS.iloadN X0.here hexec rfl (hb hbytes d0) rfl ?_
    exact Steps.refl _)
  obtain ⟨T3, B3, X3, ba3, bs3, bv3, bh3, bf3, st3⟩ := X0.anew hexec (atype := .byte) (wk W (.arrayClass .byte)) rfl (by show len * 1 ≤ _; omega) (by omega) (g := (mkF m 1 #[.val (.ref b), .val (.int (Int32.ofNat o)), .val (.int (Int32.ofNat len)), .unset, .unset, .unset] [.int (Int32.ofNat len)])) rfl (hb hbytes d1) (rest := []) rfl (Nat.le_refl _) (by show 0 + len ≤ len; omega)
  rw [hh0] at ba3 st3
  have kp3 : XT.Kept s T3 := (XT.Kept.of_eq hh0).push bh3
  have hA3 := hA.keep X3.warmed.alike (kp3 _ _ hA.1.1)
  have hne : b ≠ s.heap.size := hA.1.ne
  have c4 : Steps p.tables e below (s₁.setTop (entryFrame m #[.ref b, .int (Int32.ofNat o), .int (Int32.ofNat len)] 6)) (T3.setTop (mkF m 3 #[.val (.ref b), .val (.int (Int32.ofNat o)), .val (.int (Int32.ofNat len)), .unset, .unset, .unset] [.ref s.heap.size])) := c2.trans (st3 _ (Steps.refl _))
  have c5 : Steps p.tables e below (s₁.setTop (entryFrame m #[.ref b, .int (Int32.ofNat o), .int (Int32.ofNat len)] 6)) (T3.setTop (mkF m 9 #[.val (.ref b), .val (.int (Int32.ofNat o)), .val (.int (Int32.ofNat len)), .val (.ref s.heap.size), .unset, .unset] [.int (Int32.ofNat len), .int 0, .ref s.heap.size, .int (Int32.ofNat o), .ref b])) := c4.trans (by
    refine XS.astoreN X3.here hexec rfl (hb hbytes d3) rfl rfl rfl ?_
    refine XS.aloadN X3.here hexec rfl (hb hbytes d4) rfl rfl ?_
    refine XS.iloadN X3.here hexec rfl (hb hbytes d5) rfl ?_
    refine XS.aloadN X3.here hexec rfl (hb hbytes d6) rfl rfl ?_
    refine iconstV X3.here hexec rfl 0 (hb hbytes d7) (by decide) ?_
    refine XS.iloadN X3.here hexec rfl (hb hbytes d8) rfl ?_
    exact Steps.refl _)
  obtain ⟨v6, T6, X6, E6, g6⟩ := X3.callS hexec (Cmp5.law l b A s.heap.size B3 o 0 len) hown (wks W (staticW U16 115 Cmp5.yN)) (wk W Cmp5.tab) (W := 0) (Nat.le_of_ble_eq_true rfl) (Nat.le_of_ble_eq_true rfl) (Nat.le_refl _) (by show 0 + len + 0 ≤ len; omega) (g := (mkF m 9 #[.val (.ref b), .val (.int (Int32.ofNat o)), .val (.int (Int32.ofNat len)), .val (.ref s.heap.size), .unset, .unset] [.int (Int32.ofNat len), .int (Int32.ofNat 0), .ref s.heap.size, .int (Int32.ofNat o), .ref b])) rfl (by rw [hml]; rfl) c5 (argsL := [.ref b, .int (Int32.ofNat o), .ref s.heap.size, .int (Int32.ofNat 0), .int (Int32.ofNat len)]) (rest := []) rfl rfl (by show 2 * 0 + 0 ≤ _; decide) (hb hbytes d9) (⟨rfl, hA3, ba3, hne, l1, by rw [bs3]; simp, hp⟩)
  obtain ⟨rfl, B6, p6, f6⟩ := E6
  have c7 : Steps p.tables e below (s₁.setTop (entryFrame m #[.ref b, .int (Int32.ofNat o), .int (Int32.ofNat len)] 6)) (T6.setTop (mkF m 12 #[.val (.ref b), .val (.int (Int32.ofNat o)), .val (.int (Int32.ofNat len)), .val (.ref s.heap.size), .unset, .unset] [.int (Int32.ofNat len)])) := g6
  have c8 : Steps p.tables e below (s₁.setTop (entryFrame m #[.ref b, .int (Int32.ofNat o), .int (Int32.ofNat len)] 6)) (T6.setTop (mkF m 58 #[.val (.ref b), .val (.int (Int32.ofNat o)), .val (.int (Int32.ofNat len)), .val (.ref s.heap.size), .val (.int (Int32.ofNat len)), .unset] [.ref s.heap.size])) := c7.trans (by
    refine XS.istore X6.here hexec rfl (hb hbytes d12) rfl rfl ?_
    refine XS.iload X6.here hexec rfl (hb hbytes d14) rfl ?_
    refine XS.iloadN X6.here hexec rfl (hb hbytes d16) rfl ?_
    refine XS.icmpYes X6.here hexec rfl (pc0 := 17) rfl (hb hbytes d17) rfl (ii_eq_t rfl) (by decide) rfl ?_
    refine XS.aloadN X6.here hexec rfl (hb hbytes d57) rfl rfl ?_
    exact Steps.refl _)
  have X8 := X6.wide (L' := []) (cells' := 1) (slots' := len) (fun x hx hlt => by
    simp only [List.nil_append, copyLocs, List.mem_map, List.mem_range] at hx
    obtain ⟨i, -, rfl⟩ := hx
    exact absurd hlt (Nat.lt_irrefl _)) (Nat.le_refl _) (by omega)
  exact ⟨T6, some (.ref s.heap.size), _, _, _, X8, rfl, rfl, rfl, (fun h => by cases h), ⟨⟨rfl, B6, ba3.like (X3.warmed.alike.symm.trans X6.warmed.alike) p6.1 f6.1 f6.2.1 f6.2.2.1, f6.2.1.trans bv3, by rw [X6.warmed.alike.findClass, f6.1]; exact bf3, by rw [f6.2.2.1, bs3]; simp, fun j hj => by rw [f6.2.2.2 j, if_pos (by omega)]; rfl, kp3.put p6 (Nat.le_refl _)⟩, by rw [p6.2.2, bh3, hh0]; simp⟩, fun fs hl => c8.trans (X8.areturnOut hexec rfl hret rfl (hb hbytes d58) hl)⟩
end Cmp3
namespace CodL
def yN : MethodName := ⟨"java/lang/StringUTF16", "coderFromArrayLen", "([BI)B"⟩
abbrev yB : ByteArray := jdk_52_method_15_code
theorem d0 : decode yB 0 = .ok (.iload_n 1, 1) := by decide +kernel
theorem d1 : decode yB 1 = .ok (.aload_n 0, 1) := by decide +kernel
theorem d2 : decode yB 2 = .ok (.arraylength, 1) := by decide +kernel
theorem d3 : decode yB 3 = .ok (.isub, 1) := by decide +kernel
theorem d4 : decode yB 4 = .ok (.bipush 31, 2) := by decide +kernel
theorem d6 : decode yB 6 = .ok (.iushr, 1) := by decide +kernel
theorem d7 : decode yB 7 = .ok (.i2b, 1) := by decide +kernel
theorem d8 : decode yB 8 = .ok (.ireturn, 1) := by decide +kernel
def site : List Cond := []
def tab : Cond := tabOf yN yB 2 (some .byte) site
def P (d : Addr) (B : Cell) (args : Array Value) (s : State) : Prop := args = #[.ref d, .int (Int32.ofNat B.slots.size)] ∧ Arr .byte d B s
def E (r : Option Value) (s u : State) : Prop := XT.PureE (some (.int 0)) r s u
/-- an array as long as the number of chars: LATIN1 -/
theorem law (l : Launch) (d : Addr) (B : Cell) : Law l yN 2 2 0 0 yB 2 (some .byte) site (P d B) E [] 0 0 := by
  refine Law.of_walk (plainFor_of_name (by decide +kernel)) (by decide +kernel) (by decide +kernel) (by decide) (fun _ _ h => by rw [h.1]; rfl) (fun _ U U' hal hh h => ⟨h.1, h.2.mv hal hh⟩) (fun r U U' V V' h1 hal h2 h => XT.PureE.mv r U U' V V' h1 hal h2 h) ?_
  intro p e s m args below meth c s₁ X0 hexec hbytes hml hret hlk hnm hown hh0 W hP
  obtain ⟨rfl, hB⟩ := hP
  have hB0 := hB.mv X0.warmed.alike hh0
  have c1 : Steps p.tables e below (s₁.setTop (entryFrame m #[.ref d, .int (Int32.ofNat B.slots.size)] 2)) (s₁.setTop (mkF m 0 #[.val (.ref d), .val (.int (Int32.ofNat B.slots.size))] [])) := entry rfl
  have c2 : Steps p.tables e below (s₁.setTop (entryFrame m #[.ref d, .int (Int32.ofNat B.slots.size)] 2)) (s₁.setTop (mkF m 2 #[.val (.ref d), .val (.int (Int32.ofNat B.slots.size))] [.ref d, .int (Int32.ofNat B.slots.size)])) := c1.trans (by
    refine XS.iloadN X0.here hexec rfl (hb hbytes d0) rfl ?_
    refine XS.aloadN X0.here hexec rfl (hb hbytes d1) rfl rfl ?_
    exact Steps.refl _)
  have c3 : Steps p.tables e below (s₁.setTop (entryFrame m #[.ref d, .int (Int32.ofNat B.slots.size)] 2)) (s₁.setTop (mkF m 8 #[.val (.ref d), .val (.int (Int32.ofNat B.slots.size))] [.int (lo8 (ushr (Int32.ofNat B.slots.size - Int32.ofNat B.slots.size) 31))])) := c2.trans (by
    refine X0.alen hexec hB0 rfl rfl (hb hbytes d2) ?_
    refine XS.isub X0.here hexec rfl (hb hbytes d3) rfl ?_
    refine bipushV X0.here hexec rfl 31 (hb hbytes d4) (by decide) ?_
    refine iushr X0.here hexec rfl (hb hbytes d6) rfl ?_
    refine i2b X0.here hexec rfl (hb hbytes d7) rfl ?_
    exact Steps.refl _)
  have e0 : lo8 (ushr (Int32.ofNat B.slots.size - Int32.ofNat B.slots.size) 31) = 0 := by rw [Int32.sub_self]; decide
  rw [e0] at c3
  exact ⟨s₁, some (.int 0), _, _, _, X0, rfl, rfl, rfl, (fun h => by cases h), ⟨rfl, hh0⟩, fun fs hl => c3.trans (X0.ireturnOut hexec hret rfl (Or.inr (Or.inr (Or.inl rfl))) (hb hbytes d8) hl)⟩
end CodL
/-- the String at a is Latin-1 over a new byte[] (the heap's one new cell): the low bytes of the len chars of A from o on; every cell but a is kept -/
def Got (a : Addr) (D : Cell) (fV fC : Field) (A : Cell) (o len : Nat) (r : Option Value) (s u : State) : Prop := r = none ∧ ∃ D' V : Cell, Blank "java/lang/String" a D' u ∧ Same D D' [fV.slot, fC.slot] ∧ D'.slots[fV.slot]? = some (.ref s.heap.size) ∧ D'.slots[fC.slot]? = some (.int 0) ∧ Arr .byte s.heap.size V u ∧ V.vm = .none ∧ u.vm.findClass "[B" = some V.cls ∧ V.slots.size = len ∧ (∀ j, j < len → V.slots[j]? = some (.int (lo8 (cv A (o + j))))) ∧ (∀ (y : Addr) (c : Cell), y ≠ a → s.heap[y]? = some c → u.heap[y]? = some c) ∧ u.heap.size = s.heap.size + 1
theorem Got.mv {a : Addr} {D A : Cell} {fV fC : Field} {o len : Nat} : ∀ r (U U' V V' : State), U'.heap = U.heap → V.vm.Alike V'.vm → V'.heap = V.heap → Got a D fV fC A o len r U V → Got a D fV fC A o len r U' V' :=
  fun r U U' V V' h1 hal h2 ⟨e0, D', X, a1, a2, a3, a4, a5, a6, a7, a8, a9, a10, a11⟩ => ⟨e0, D', X, a1.mv hal h2, a2, by rw [h1]; exact a3, a4, by rw [h1]; exact a5.mv hal h2, a6, by rw [hal.findClass]; exact a7, a8, a9, by rw [h1, h2]; exact a10, by rw [h1, h2]; exact a11⟩
namespace New4
def yN : MethodName := ⟨"java/lang/String", "<init>", "([CIILjava/lang/Void;)V"⟩
abbrev yB : ByteArray := jdk_42_method_149_code
theorem d0 : decode yB 0 = .ok (.aload_n 0, 1) := by decide +kernel
theorem d1 : decode yB 1 = .ok (.invokespecial 1, 3) := by decide +kernel
theorem d4 : decode yB 4 = .ok (.iload_n 3, 1) := by decide +kernel
theorem d5 : decode yB 5 = .ok (.ifCond (.ne) 22, 3) := by decide +kernel
theorem d27 : decode yB 27 = .ok (.getstatic 38, 3) := by decide +kernel
theorem d30 : decode yB 30 = .ok (.ifCond (.eq) 28, 3) := by decide +kernel
theorem d33 : decode yB 33 = .ok (.aload_n 1, 1) := by decide +kernel
theorem d34 : decode yB 34 = .ok (.iload_n 2, 1) := by decide +kernel
theorem d35 : decode yB 35 = .ok (.iload_n 3, 1) := by decide +kernel
theorem d36 : decode yB 36 = .ok (.invokestatic 177, 3) := by decide +kernel
theorem d39 : decode yB 39 = .ok (.astore 5, 2) := by decide +kernel
theorem d41 : decode yB 41 = .ok (.aload_n 0, 1) := by decide +kernel
theorem d42 : decode yB 42 = .ok (.aload 5, 2) := by decide +kernel
theorem d44 : decode yB 44 = .ok (.iload_n 3, 1) := by decide +kernel
theorem d45 : decode yB 45 = .ok (.invokestatic 47, 3) := by decide +kernel
theorem d48 : decode yB 48 = .ok (.putfield 15, 3) := by decide +kernel
theorem d51 : decode yB 51 = .ok (.aload_n 0, 1) := by decide +kernel
theorem d52 : decode yB 52 = .ok (.aload 5, 2) := by decide +kernel
theorem d54 : decode yB 54 = .ok (.putfield 9, 3) := by decide +kernel
theorem d57 : decode yB 57 = .ok (.return_, 1) := by decide +kernel
def site : List Cond := [.fieldLink "java/lang/String" 38 "java/lang/String" "COMPACT_STRINGS" "Z", Cmp3.tab, CodL.tab, .laysFinal "java/lang/String" "java/lang/String" "value" "[B", .fieldLink "java/lang/String" 9 "java/lang/String" "value" "[B", .laysFinal "java/lang/String" "java/lang/String" "coder" "B", .fieldLink "java/lang/String" 15 "java/lang/String" "coder" "B"] ++ objW "java/lang/String" 1 ++ staticW "java/lang/String" 177 Cmp3.yN ++ staticW "java/lang/String" 47 CodL.yN
def tab : Cond := tabOf yN yB 6 none site
def P (a : Addr) (D : Cell) (fV fC : Field) (b : Addr) (A : Cell) (z : Int32) (o len : Nat) (args : Array Value) (s : State) : Prop := args = #[.ref a, .ref b, .int (Int32.ofNat o), .int (Int32.ofNat len), .null] ∧ Blank "java/lang/String" a D s ∧ Found "java/lang/String" "value" "[B" fV s ∧ Found "java/lang/String" "coder" "B" fC s ∧ Ch b A s ∧ StaticIs s "java/lang/String" "COMPACT_STRINGS" "Z" (.int z) ∧ ¬ z = 0 ∧ 0 < len ∧ o + len ≤ A.slots.size ∧ len ≤ 536870912 ∧ ∀ i, i < len → ¬ 255 < cv A (o + i)
def E (a : Addr) (D : Cell) (fV fC : Field) (A : Cell) (o len : Nat) (r : Option Value) (s u : State) : Prop := Got a D fV fC A o len r s u
/-- len > 0, no char of the range above 255: a Latin-1 String of their low bytes -/
theorem law (l : Launch) (a : Addr) (D : Cell) (fV fC : Field) (b : Addr) (A : Cell) (z : Int32) (o len : Nat) : Law l yN 5 4 2 35 yB 6 none site (P a D fV fC b A z o len) (E a D fV fC A o len) [⟨a, fC.slot⟩, ⟨a, fV.slot⟩] 1 len := by
  refine Law.of_walk (plainFor_of_name (by decide +kernel)) (by decide +kernel) (by decide +kernel) (by decide) (fun _ _ h => by rw [h.1]; rfl) (fun _ U U' hal hh h => ⟨h.1, h.2.1.mv hal hh, h.2.2.1.al hal, h.2.2.2.1.al hal, h.2.2.2.2.1.mv hal hh, h.2.2.2.2.2.1.there hal hh, h.2.2.2.2.2.2⟩) (fun r U U' V V' h1 hal h2 h => Got.mv r U U' V V' h1 hal h2 h) ?_
  intro p e s m args below meth c s₁ X0 hexec hbytes hml hret hlk hnm hown hh0 W hP
  obtain ⟨rfl, hB, f1, f2, hA, s1, hz, l0, l1, l2, hp⟩ := hP
  have a31 := hA.1.2.2.2
  have c1 : Steps p.tables e below (s₁.setTop (entryFrame m #[.ref a, .ref b, .int (Int32.ofNat o), .int (Int32.ofNat len), .null] 6)) (s₁.setTop (mkF m 0 #[.val (.ref a), .val (.ref b), .val (.int (Int32.ofNat o)), .val (.int (Int32.ofNat len)), .val .null, .unset] [])) := entry rfl
  have c2 : Steps p.tables e below (s₁.setTop (entryFrame m #[.ref a, .ref b, .int (Int32.ofNat o), .int (Int32.ofNat len), .null] 6)) (s₁.setTop (mkF m 1 #[.val (.ref a), .val (.ref b), .val (.int (Int32.ofNat o)), .val (.int (Int32.ofNat len)), .val .null, .unset] [.ref a])) := c1.trans (by
    refine XS.aloadN X0.here hexec rfl (hb hbytes d0) rfl rfl ?_
    exact Steps.refl _)
  obtain ⟨T3, X3, q3, st3⟩ := X0.oinit hexec hown (wks W (objW "java/lang/String" 1)) (g := (mkF m 1 #[.val (.ref a), .val (.ref b), .val (.int (Int32.ofNat o)), .val (.int (Int32.ofNat len)), .val .null, .unset] [.ref a])) rfl (by rw [hml]; rfl) (rest := []) rfl (hb hbytes d1) (W := 0) (by show 2 * 0 + 0 ≤ _; decide) (Nat.le_of_ble_eq_true rfl) (Nat.le_of_ble_eq_true rfl)
  have hh3 := q3.trans hh0
  have c4 : Steps p.tables e below (s₁.setTop (entryFrame m #[.ref a, .ref b, .int (Int32.ofNat o), .int (Int32.ofNat len), .null] 6)) (T3.setTop (mkF m 27 #[.val (.ref a), .val (.ref b), .val (.int (Int32.ofNat o)), .val (.int (Int32.ofNat len)), .val .null, .unset] [])) := (c2.trans (st3 _ (Steps.refl _))).trans (by
    refine XS.iloadN X3.here hexec rfl (hb hbytes d4) rfl ?_
    refine XS.ifYes X3.here hexec rfl (pc0 := 5) rfl (hb hbytes d5) rfl (i0_ne_t (nz32 (by omega) l0)) (by decide) rfl ?_
    exact Steps.refl _)
  obtain ⟨T5, X5, q5, st5⟩ := X3.sget hexec hown (wk W (.fieldLink "java/lang/String" 38 "java/lang/String" "COMPACT_STRINGS" "Z")) s1 (fun _ _ h => by rw [hh3]; exact h) (g := (mkF m 27 #[.val (.ref a), .val (.ref b), .val (.int (Int32.ofNat o)), .val (.int (Int32.ofNat len)), .val .null, .unset] [])) rfl (hb hbytes d27)
  have hh5 := q5.trans hh3
  have c6 : Steps p.tables e below (s₁.setTop (entryFrame m #[.ref a, .ref b, .int (Int32.ofNat o), .int (Int32.ofNat len), .null] 6)) (T5.setTop (mkF m 30 #[.val (.ref a), .val (.ref b), .val (.int (Int32.ofNat o)), .val (.int (Int32.ofNat len)), .val .null, .unset] [.int z])) := c4.trans (st5 _ (Steps.refl _))
  have c7 : Steps p.tables e below (s₁.setTop (entryFrame m #[.ref a, .ref b, .int (Int32.ofNat o), .int (Int32.ofNat len), .null] 6)) (T5.setTop (mkF m 36 #[.val (.ref a), .val (.ref b), .val (.int (Int32.ofNat o)), .val (.int (Int32.ofNat len)), .val .null, .unset] [.int (Int32.ofNat len), .int (Int32.ofNat o), .ref b])) := c6.trans (by
    refine XS.ifNo X5.here hexec rfl (hb hbytes d30) rfl (i0_eq_f hz) ?_
    refine XS.aloadN X5.here hexec rfl (hb hbytes d33) rfl rfl ?_
    refine XS.iloadN X5.here hexec rfl (hb hbytes d34) rfl ?_
    refine XS.iloadN X5.here hexec rfl (hb hbytes d35) rfl ?_
    exact Steps.refl _)
  obtain ⟨v8, T8, X8, E8, g8⟩ := X5.callS hexec (Cmp3.law l b A o len) hown (wks W (staticW "java/lang/String" 177 Cmp3.yN)) (wk W Cmp3.tab) (W := 0) (Nat.le_of_ble_eq_true rfl) (Nat.le_of_ble_eq_true rfl) (Nat.le_refl _) (by show 0 + len ≤ len; omega) (g := (mkF m 36 #[.val (.ref a), .val (.ref b), .val (.int (Int32.ofNat o)), .val (.int (Int32.ofNat len)), .val .null, .unset] [.int (Int32.ofNat len), .int (Int32.ofNat o), .ref b])) rfl (by rw [hml]; rfl) c7 (argsL := [.ref b, .int (Int32.ofNat o), .int (Int32.ofNat len)]) (rest := []) rfl rfl (by show 2 * 0 + 0 ≤ _; decide) (hb hbytes d36) (⟨rfl, hA.mv X5.warmed.alike hh5, l1, l2, hp⟩)
  obtain ⟨e8, z8⟩ := E8
  obtain ⟨rfl, N, n1, n2, n3, n4, n5, n6⟩ := NewArr.mv _ T5 s _ _ hh5.symm (Vm.Alike.refl _) rfl e8
  rw [hh5] at z8
  have hB1 := hB.keep X8.warmed.alike (n6 _ _ hB.1)
  have hne : s.heap.size ≠ a := (Nat.ne_of_lt (Array.getElem?_eq_some_iff.mp hB.1).1).symm
  have c9 : Steps p.tables e below (s₁.setTop (entryFrame m #[.ref a, .ref b, .int (Int32.ofNat o), .int (Int32.ofNat len), .null] 6)) (T8.setTop (mkF m 39 #[.val (.ref a), .val (.ref b), .val (.int (Int32.ofNat o)), .val (.int (Int32.ofNat len)), .val .null, .unset] [.ref s.heap.size])) := g8
  have c10 : Steps p.tables e below (s₁.setTop (entryFrame m #[.ref a, .ref b, .int (Int32.ofNat o), .int (Int32.ofNat len), .null] 6)) (T8.setTop (mkF m 45 #[.val (.ref a), .val (.ref b), .val (.int (Int32.ofNat o)), .val (.int (Int32.ofNat len)), .val .null, .val (.ref s.heap.size)] [.int (Int32.ofNat N.slots.size), .ref s.heap.size, .ref a])) := by
    have hc : Steps p.tables e below (s₁.setTop (entryFrame m #[.ref a, .ref b, .int (Int32.ofNat o), .int (Int32.ofNat len), .null] 6)) (T8.setTop (mkF m 45 #[.val (.ref a), .val (.ref b), .val (.int (Int32.ofNat o)), .val (.int (Int32.ofNat len)), .val .null, .val (.ref s.heap.size)] [.int (Int32.ofNat len), .ref s.heap.size, .ref a])) := c9.trans (by
      refine XS.astore X8.here hexec rfl (hb hbytes d39) rfl rfl rfl ?_
      refine XS.aloadN X8.here hexec rfl (hb hbytes d41) rfl rfl ?_
      refine XS.aload X8.here hexec rfl (hb hbytes d42) rfl rfl ?_
      refine XS.iloadN X8.here hexec rfl (hb hbytes d44) rfl ?_
      exact Steps.refl _)
    rw [n4]; exact hc
  obtain ⟨v11, T11, X11, E11, g11⟩ := X8.callS hexec (CodL.law l s.heap.size N) hown (wks W (staticW "java/lang/String" 47 CodL.yN)) (wk W CodL.tab) (W := 1) (Nat.le_of_ble_eq_true rfl) (Nat.le_of_ble_eq_true rfl) (Nat.le_refl _) (by show 0 + len + 0 ≤ len; omega) (g := (mkF m 45 #[.val (.ref a), .val (.ref b), .val (.int (Int32.ofNat o)), .val (.int (Int32.ofNat len)), .val .null, .val (.ref s.heap.size)] [.int (Int32.ofNat N.slots.size), .ref s.heap.size, .ref a])) rfl (by rw [hml]; rfl) c10 (argsL := [.ref s.heap.size, .int (Int32.ofNat N.slots.size)]) (rest := [.ref a]) rfl rfl (by show 2 * 0 + (1 + 0) ≤ _; decide) (hb hbytes d45) (⟨rfl, n1⟩)
  obtain ⟨rfl, q11⟩ := E11
  have hB11 := hB1.mv (X8.warmed.alike.symm.trans X11.warmed.alike) q11
  have c12 : Steps p.tables e below (s₁.setTop (entryFrame m #[.ref a, .ref b, .int (Int32.ofNat o), .int (Int32.ofNat len), .null] 6)) (T11.setTop (mkF m 48 #[.val (.ref a), .val (.ref b), .val (.int (Int32.ofNat o)), .val (.int (Int32.ofNat len)), .val .null, .val (.ref s.heap.size)] [.int 0, .ref a])) := g11
  obtain ⟨T13, X13, p13, bl13, sl13, st13⟩ := X11.finit hexec hown (wk W (.fieldLink "java/lang/String" 15 "java/lang/String" "coder" "B")) (Or.inr ⟨_, (wk W (.laysFinal "java/lang/String" "java/lang/String" "coder" "B"))⟩) (Or.inl ⟨rfl, hnm⟩) f2 (Or.inl rfl) hB11 (t := .byte) (by decide +kernel) rfl (g := (mkF m 48 #[.val (.ref a), .val (.ref b), .val (.int (Int32.ofNat o)), .val (.int (Int32.ofNat len)), .val .null, .val (.ref s.heap.size)] [.int 0, .ref a])) rfl (rest := []) rfl (hb hbytes d48)
  have c14 : Steps p.tables e below (s₁.setTop (entryFrame m #[.ref a, .ref b, .int (Int32.ofNat o), .int (Int32.ofNat len), .null] 6)) (T13.setTop (mkF m 54 #[.val (.ref a), .val (.ref b), .val (.int (Int32.ofNat o)), .val (.int (Int32.ofNat len)), .val .null, .val (.ref s.heap.size)] [.ref s.heap.size, .ref a])) := (c12.trans (st13 _ (Steps.refl _))).trans (by
    refine XS.aloadN X13.here hexec rfl (hb hbytes d51) rfl rfl ?_
    refine XS.aload X13.here hexec rfl (hb hbytes d52) rfl rfl ?_
    exact Steps.refl _)
  obtain ⟨T15, X15, p15, bl15, sl15, st15⟩ := X13.finit hexec hown (wk W (.fieldLink "java/lang/String" 9 "java/lang/String" "value" "[B")) (Or.inr ⟨_, (wk W (.laysFinal "java/lang/String" "java/lang/String" "value" "[B"))⟩) (Or.inl ⟨rfl, hnm⟩) f1 (Or.inl rfl) bl13 (t := (.array .byte)) (by decide +kernel) rfl (g := (mkF m 54 #[.val (.ref a), .val (.ref b), .val (.int (Int32.ofNat o)), .val (.int (Int32.ofNat len)), .val .null, .val (.ref s.heap.size)] [.ref s.heap.size, .ref a])) rfl (rest := []) rfl (hb hbytes d54)
  have c16 : Steps p.tables e below (s₁.setTop (entryFrame m #[.ref a, .ref b, .int (Int32.ofNat o), .int (Int32.ofNat len), .null] 6)) (T15.setTop (mkF m 57 #[.val (.ref a), .val (.ref b), .val (.int (Int32.ofNat o)), .val (.int (Int32.ofNat len)), .val .null, .val (.ref s.heap.size)] [])) := c14.trans (st15 _ (Steps.refl _))
  have ap := apart (Or.inr ⟨_, (wk W (.laysFinal "java/lang/String" "java/lang/String" "value" "[B"))⟩) (Or.inr ⟨_, (wk W (.laysFinal "java/lang/String" "java/lang/String" "coder" "B"))⟩) f1 f2 (t₁ := .array .byte) (t₂ := .byte) (by decide +kernel) (by decide +kernel) (by decide)
  have al := X8.warmed.alike.symm.trans X15.warmed.alike
  have n7 : T11.heap[s.heap.size]? = some N := by rw [q11]; exact n1.1
  exact ⟨T15, none, _, _, _, X15, by simp, rfl, by omega, (fun _ => rfl), ⟨rfl, _, N, bl15, ((Same.refl D _).set _ (by simp)).set _ (by simp), sl15, (Cell.slots_setSlot_ne _ ap).trans sl13, n1.keep al (p15.other hne (p13.other hne n7)), n2, by rw [al.findClass]; exact n3, n4, n5, fun y c h1 h2 => p15.other h1 (p13.other h1 (by rw [q11]; exact n6 y c h2)), by rw [p15.2.2, p13.2.2, q11]; exact z8⟩, fun fs hl => c16.trans (X15.returnOut hexec hret (hb hbytes d57) hl)⟩
end New4
namespace New1
def yN : MethodName := ⟨"java/lang/String", "<init>", "([C)V"⟩
abbrev yB : ByteArray := jdk_42_method_3_code
theorem d0 : decode yB 0 = .ok (.aload_n 0, 1) := by decide +kernel
theorem d1 : decode yB 1 = .ok (.aload_n 1, 1) := by decide +kernel
theorem d2 : decode yB 2 = .ok (.iconst 0, 1) := by decide +kernel
theorem d3 : decode yB 3 = .ok (.aload_n 1, 1) := by decide +kernel
theorem d4 : decode yB 4 = .ok (.arraylength, 1) := by decide +kernel
theorem d5 : decode yB 5 = .ok (.aconst_null, 1) := by decide +kernel
theorem d6 : decode yB 6 = .ok (.invokespecial 27, 3) := by decide +kernel
theorem d9 : decode yB 9 = .ok (.return_, 1) := by decide +kernel
def site : List Cond := [New4.tab] ++ initW "java/lang/String" 27 New4.yN
def tab : Cond := tabOf yN yB 2 none site
def P (a : Addr) (D : Cell) (fV fC : Field) (b : Addr) (A : Cell) (z : Int32) (args : Array Value) (s : State) : Prop := args = #[.ref a, .ref b] ∧ Blank "java/lang/String" a D s ∧ Found "java/lang/String" "value" "[B" fV s ∧ Found "java/lang/String" "coder" "B" fC s ∧ Ch b A s ∧ StaticIs s "java/lang/String" "COMPACT_STRINGS" "Z" (.int z) ∧ ¬ z = 0 ∧ 0 < A.slots.size ∧ A.slots.size ≤ 536870912 ∧ ∀ i, i < A.slots.size → ¬ 255 < cv A i
def E (a : Addr) (D : Cell) (fV fC : Field) (A : Cell) (r : Option Value) (s u : State) : Prop := Got a D fV fC A 0 A.slots.size r s u
/-- new String(chars), not empty, no char above 255: a Latin-1 String of their low bytes -/
theorem law (l : Launch) (a : Addr) (D : Cell) (fV fC : Field) (b : Addr) (A : Cell) (z : Int32) : Law l yN 2 1 3 52 yB 2 none site (P a D fV fC b A z) (E a D fV fC A) [⟨a, fC.slot⟩, ⟨a, fV.slot⟩] 1 A.slots.size := by
  refine Law.of_walk (plainFor_of_name (by decide +kernel)) (by decide +kernel) (by decide +kernel) (by decide) (fun _ _ h => by rw [h.1]; rfl) (fun _ U U' hal hh h => ⟨h.1, h.2.1.mv hal hh, h.2.2.1.al hal, h.2.2.2.1.al hal, h.2.2.2.2.1.mv hal hh, h.2.2.2.2.2.1.there hal hh, h.2.2.2.2.2.2⟩) (fun r U U' V V' h1 hal h2 h => Got.mv r U U' V V' h1 hal h2 h) ?_
  intro p e s m args below meth c s₁ X0 hexec hbytes hml hret hlk hnm hown hh0 W hP
  obtain ⟨rfl, hB, f1, f2, hA, s1, hz, l0, l2, hp⟩ := hP
  have c1 : Steps p.tables e below (s₁.setTop (entryFrame m #[.ref a, .ref b] 2)) (s₁.setTop (mkF m 0 #[.val (.ref a), .val (.ref b)] [])) := entry rfl
  have c2 : Steps p.tables e below (s₁.setTop (entryFrame m #[.ref a, .ref b] 2)) (s₁.setTop (mkF m 6 #[.val (.ref a), .val (.ref b)] [.null, .int (Int32.ofNat A.slots.size), .int 0, .ref b, .ref a])) := c1.trans (by
    refine XS.aloadN X0.here hexec rfl (hb hbytes d0) rfl rfl ?_
    refine XS.aloadN X0.here hexec rfl (hb hbytes d1) rfl rfl ?_
    refine iconstV X0.here hexec rfl 0 (hb hbytes d2) (by decide) ?_
    refine XS.aloadN X0.here hexec rfl (hb hbytes d3) rfl rfl ?_
    refine X0.alen hexec (hA.1.mv X0.warmed.alike hh0) rfl rfl (hb hbytes d4) ?_
    refine XS.aconstNull X0.here hexec rfl (hb hbytes d5) ?_
    exact Steps.refl _)
  obtain ⟨v3, T3, X3, E3, g3⟩ := X0.callN hexec (New4.law l a D fV fC b A z 0 A.slots.size) rfl hown (wks W (initW "java/lang/String" 27 New4.yN)) (W New4.tab (by simp only [site, List.mem_cons, List.mem_append, true_or, or_true])) (W := 0) (Nat.le_of_ble_eq_true rfl) (Nat.le_of_ble_eq_true rfl) (Nat.le_refl _) (by show 0 + A.slots.size ≤ A.slots.size; omega) (g := (mkF m 6 #[.val (.ref a), .val (.ref b)] [.null, .int (Int32.ofNat A.slots.size), .int (Int32.ofNat 0), .ref b, .ref a])) rfl (by rw [hml]; rfl) c2 (argsL := [.ref b, .int (Int32.ofNat 0), .int (Int32.ofNat A.slots.size), .null]) (rest := []) rfl rfl (by show 2 * 0 + 0 ≤ _; decide) (hb hbytes d6) (⟨rfl, hB.mv X0.warmed.alike hh0, f1.al X0.warmed.alike, f2.al X0.warmed.alike, hA.mv X0.warmed.alike hh0, s1.there X0.warmed.alike hh0, hz, l0, by omega, l2, fun i hi => by rw [Nat.zero_add]; exact hp i hi⟩)
  have e0 := Got.mv _ s₁ s _ _ hh0.symm (Vm.Alike.refl _) rfl E3
  obtain rfl := e0.1
  have c4 : Steps p.tables e below (s₁.setTop (entryFrame m #[.ref a, .ref b] 2)) (T3.setTop (mkF m 9 #[.val (.ref a), .val (.ref b)] [])) := g3
  exact ⟨T3, none, _, _, _, X3, by simp, rfl, by omega, (fun _ => rfl), e0, fun fs hl => c4.trans (X3.returnOut hexec hret (hb hbytes d9) hl)⟩
theorem pays {l : Launch} {R : Room} {p : Program} {e : Env} {below : List Frame} {s : State} {sargs : Array Value} {len W : Nat} (a : Addr) (D : Cell) (fV fC : Field) (b : Addr) (A : Cell) (z : Int32) (htab : tab.before sargs s = true) (hfr : 4 ≤ R.frames) (hlo : W + 65 ≤ R.locals) :
    Back l R p e below s sargs yN len W (fun A₁ a₁ => A₁.cells + 1 ≤ R.cells ∧ A₁.slots + A.slots.size ≤ R.slots ∧ P a D fV fC b A z a₁ A₁.U) (fun A₁ _ v₁ B₁ => E a D fV fC A v₁ A₁.U B₁.U ∧ B₁.locs = A₁.locs ++ [⟨a, fC.slot⟩, ⟨a, fV.slot⟩] ∧ B₁.cells = A₁.cells + 1 ∧ B₁.slots = A₁.slots + A.slots.size) :=
  (law l a D fV fC b A z).pays htab hfr (by omega)
end New1
end StrChars
namespace StrChars.Road
open Jvm Sem ClassFile Op Lib Jvm.Stand Jvm.Free Jvm.Free.XT
open Jvm.Lib.Cold (StaticIs)
abbrev ST : String := "java/lang/String"
/-- every table word that New1's law asks, flat -/
abbrev words : List Jvm.Cond := [.code New1.yN New1.yB 2 none, .initialized ST, .methodLink ST 27 New4.yN, .instanceMethod New4.yN,
  .code New4.yN New4.yB 6 none, .fieldLink ST 38 ST "COMPACT_STRINGS" "Z", .laysFinal ST ST "value" "[B", .fieldLink ST 9 ST "value" "[B", .laysFinal ST ST "coder" "B", .fieldLink ST 15 ST "coder" "B",
  .methodLink ST 1 Lib.objectInit, .instanceMethod Lib.objectInit, .code Lib.objectInit ⟨#[0xb1]⟩ 1 none, .methodLink ST 177 Cmp3.yN, .static Cmp3.yN, .methodLink ST 47 CodL.yN, .static CodL.yN,
  .code Cmp3.yN Cmp3.yB 6 (some (.array .byte)), .initialized U16, .arrayClass .byte, .methodLink U16 115 Cmp5.yN, .static Cmp5.yN, .code Cmp5.yN Cmp5.yB 7 (some .int), .code CodL.yN CodL.yB 2 (some .byte)]
theorem tab_of {a : Array Value} {s : State} (h : ∀ w ∈ words, w.before a s = true) : New1.tab.before a s = true := by
  have h5 : Cmp5.tab.before a s = true := unparts (wk h (.code Cmp5.yN Cmp5.yB 7 (some .int))) (wks h (.initialized Cmp5.yN.cls :: Cmp5.site))
  have hc : CodL.tab.before a s = true := unparts (wk h (.code CodL.yN CodL.yB 2 (some .byte))) (wks h (.initialized CodL.yN.cls :: CodL.site))
  have q5 : ∀ w ∈ Cmp5.tab :: words, w.before a s = true := fun w hw => (List.mem_cons.mp hw).elim (fun e => e ▸ h5) (h w)
  have h3 : Cmp3.tab.before a s = true := unparts (wk q5 (.code Cmp3.yN Cmp3.yB 6 (some (.array .byte)))) (wks q5 (.initialized Cmp3.yN.cls :: Cmp3.site))
  have q3 : ∀ w ∈ Cmp3.tab :: CodL.tab :: words, w.before a s = true := fun w hw => (List.mem_cons.mp hw).elim (fun e => e ▸ h3) fun hw => (List.mem_cons.mp hw).elim (fun e => e ▸ hc) (h w)
  have h4 : New4.tab.before a s = true := unparts (wk q3 (.code New4.yN New4.yB 6 none)) (wks q3 (.initialized New4.yN.cls :: New4.site))
  have q4 : ∀ w ∈ New4.tab :: words, w.before a s = true := fun w hw => (List.mem_cons.mp hw).elim (fun e => e ▸ h4) (h w)
  exact unparts (wk q4 (.code New1.yN New1.yB 2 none)) (wks q4 (.initialized New1.yN.cls :: New1.site))
/-- the words ride from the start Z to the walk's own state -/
theorem moved {Z s : State} {a0 args : Array Value} (hZ : Z.Warmed39 s.vm) (hw : ∀ d ∈ words, d.before a0 Z = true) : ∀ d ∈ words, d.before args s = true := fun d hd => by
  have q := hw d hd
  have t : ∀ d ∈ words, d = .arrayClass .byte ∨ (d.onTables && d.keepsFace) = true := by decide +kernel
  rcases t d hd with rfl | t
  · exact RoadKit.mvA hZ q
  · exact RoadKit.mv hZ q t
/-- WHAT COMES BACK, over the tables of the start Z: h the heap at the call, h' behind it -/
def Q (Z : State) (x : Addr) (A : Cell) (h : Heap) (v : Option Value) (h' : Heap) (L : List Loc) : Prop := v = none ∧ (∀ y ∈ L, y.base = x) ∧ RoadKit.Keep h h' [x] ∧ h'.size = h.size + 1 ∧ RoadKit.Exa Z h' x ST ∧ RoadKit.Fld Z h' x ST "value" "[B" (.ref h.size) ∧ RoadKit.Fld Z h' x ST "coder" "B" (.int 0) ∧
  (∃ V : Cell, RoadKit.Arr Z h' h.size V .byte ∧ V.vm = .none ∧ Z.vm.findClass "[B" = some V.cls ∧ V.slots.size = A.slots.size ∧ ∀ j, j < A.slots.size → V.slots[j]? = some (.int (lo8 (cv A j)))) ∧
  ∀ (O n d : String) (w : Value), RoadKit.Fld Z h x O n d w → RoadKit.slotOf Z O n d ≠ RoadKit.slotOf Z ST "value" "[B" → RoadKit.slotOf Z O n d ≠ RoadKit.slotOf Z ST "coder" "B" → RoadKit.Fld Z h' x O n d w
/-- **new String(chars) AT A CALL, IN THE ROAD'S FORM**: for specialBack behind newO: x the fresh String, b the char[] with the cell A -/
theorem back {p : Program} {l : Launch} {e : Env} {R : Room} {s : State} {args : Array Value} {below : List Frame} {len W : Nat} {Z : State} {a0 : Array Value} {h : Heap} (hZ : Z.Warmed39 s.vm) (hw : ∀ d ∈ words, d.before a0 Z = true) {kI : Nat} (wi : (Jvm.Cond.instantiable ST kI).before a0 Z = true)
    {x b : Addr} {A : Cell} {z : Int32} {v0 c0 : Value} (E : RoadKit.Exa Z h x ST) (V : RoadKit.Fld Z h x ST "value" "[B" v0) (C : RoadKit.Fld Z h x ST "coder" "B" c0) (K : RoadKit.Arr Z h b A .char) (hty : Typed .char A) (S : RoadKit.Sta Z h ST "COMPACT_STRINGS" "Z" (.int z)) (hz : ¬ z = 0)
    (l0 : 0 < A.slots.size) (l2 : A.slots.size ≤ 536870912) (hp : ∀ i, i < A.slots.size → ¬ 255 < cv A i) (hfr : 4 ≤ R.frames) (hlo : W + 65 ≤ R.locals) :
    Back l R p e below s args New1.yN len W (fun P a => a = #[.ref x, .ref b] ∧ P.U.heap = h ∧ P.cells + 1 ≤ R.cells ∧ P.slots + A.slots.size ≤ R.slots)
      (fun P _ v B => ∃ L, Q Z x A h v B.U.heap L ∧ B.locs = P.locs ++ L ∧ B.cells = P.cells + 1 ∧ B.slots = P.slots + A.slots.size) := by
  intro m meth c P g ig mk a X hg hsize hdg hW hn hp'
  obtain ⟨rfl, rfl, r1, r2⟩ := hp'
  have al : Z.vm.Alike P.U.vm := hZ.alike.trans X.warmed.alike
  obtain ⟨D, cfV, kV, iV, fV, hD, gV, stV, knV, obV, asV, slV⟩ := id V
  obtain ⟨D', cfC, kC, iC, fC, hD', gC, stC, -, -, asC, slC⟩ := id C
  cases hD.symm.trans hD'
  obtain ⟨D2, kD, e1, e2, e3, e4, e5⟩ := id E
  cases hD.symm.trans e1
  obtain ⟨c2, k2, i1, i2, i3, -⟩ := Cond.instantiable_spec wi
  cases e2.symm.trans i1
  cases e3.symm.trans i2
  obtain ⟨kU, u1, u2⟩ := al.2.2 _ _ e3
  have hB : Blank ST x D P.U := ⟨hD, ⟨knV, fun q hq => by rw [hq] at obV; cases obV⟩, by rw [al.findClass]; exact e2, kU, u1, by rw [u2]; exact i3, by rw [u2]; exact e5 i3⟩
  have F1 : Found ST "value" "[B" fV P.U := ⟨SBG.found_only al ⟨cfV, kV, iV, gV⟩, stV⟩
  have F2 : Found ST "coder" "B" fC P.U := ⟨SBG.found_only al ⟨cfC, kC, iC, gC⟩, stC⟩
  have hA : Ch b A P.U := ⟨⟨K.1, State.isArrayOf_alike al K.2.1, K.2.2, by omega⟩, hty⟩
  have hS : StaticIs P.U ST "COMPACT_STRINGS" "Z" (.int z) := by
    obtain ⟨cfS, iS, kS, fS, st, cS, t1, t2, t3, t4, t5, t6, t7⟩ := S
    exact StaticIs.there (s := { Z with heap := P.U.heap }) ⟨cfS, iS, kS, fS, st, cS, t1, t2, t3, t4, t5, (fun q => by rw [q] at t6; cases t6), t7⟩ al rfl
  obtain ⟨v, B, X', ⟨⟨hv, E', V', q1, q2, q3, q4, q5, q6, q7, q8, q9, q10, q11⟩, hl, hc, hs⟩, st⟩ := New1.pays x D fV fC b A z (tab_of (moved hZ hw)) hfr hlo m meth c P g ig mk _ X hg hsize hdg hW hn ⟨r1, r2, rfl, hB, F1, F2, hA, hS, hz, l0, l2, hp⟩
  have al' : Z.vm.Alike B.U.vm := hZ.alike.trans X'.warmed.alike
  have hsz : E'.slots.size = D.slots.size := by
    obtain ⟨-, -, -, kB, w1, w2, w3⟩ := q1
    obtain ⟨kB', y1, y2⟩ := al'.2.2 _ _ e3
    rw [q2.2.1] at w1
    cases w1.symm.trans y1
    rw [w3, e5 i3, y2]
  refine ⟨v, B, X', ⟨_, ⟨hv, ?_, ⟨by omega, fun y cy hy hn' => q10 y cy (by simpa using hn') hy, fun y cy hy => ?_⟩, q11, ⟨E', _, q1.1, by rw [q2.2.1]; exact e2, by rw [q2.2.1]; exact e3, by rw [q2.1]; exact obV, fun _ => by rw [hsz]; exact e5 i3⟩,
    ⟨E', cfV, kV, iV, fV, q1.1, gV, stV, by rw [q2.1]; exact knV, by rw [q2.1]; exact obV, by rw [q2.2.1]; exact asV, q3⟩, ⟨E', cfC, kC, iC, fC, q1.1, gC, stC, by rw [q2.1]; exact knV, by rw [q2.1]; exact obV, by rw [q2.2.1]; exact asC, q4⟩,
    ⟨V', ⟨q5.1, State.isArrayOf_alike al'.symm q5.2.1, q5.2.2.1⟩, q6, by rw [← al'.findClass]; exact q7, q8, fun j hj => by have := q9 j hj; rwa [Nat.zero_add] at this⟩, fun O n d w F n1 n2 => ?_⟩, hl, hc, hs⟩, st⟩
  · intro y hy
    simp only [List.mem_cons, List.not_mem_nil, or_false] at hy
    rcases hy with rfl | rfl <;> rfl
  · by_cases q : y = x
    · subst q
      cases hD.symm.trans hy
      exact ⟨E', q1.1, q2.2.1, q2.1, hsz⟩
    · exact ⟨cy, q10 y cy q hy, rfl, rfl, rfl⟩
  · obtain ⟨D3, cf, k, i, f, g1, g2, g3, g4, g5, g6, g7⟩ := F
    cases hD.symm.trans g1
    simp only [RoadKit.slotOf, g2, gV, gC, Option.map_some, Option.getD_some] at n1 n2
    exact ⟨E', cf, k, i, f, q1.1, g2, g3, by rw [q2.1]; exact g4, by rw [q2.1]; exact g5, by rw [q2.2.1]; exact g6, by rw [q2.2.2 f.slot (by simp [n1, n2])]; exact g7⟩
end StrChars.Road
namespace StrChars.Road
open Jvm Sem ClassFile Op Lib Jvm.Stand Jvm.Free Jvm.Free.XT
/-- WHAT COMES BACK, the byte[] as a list of values -/
def QA (Z : State) (x : Addr) (zn : Int32) (cs : List Int32) (h : Heap) (v : Option Value) (h' : Heap) (L : List Loc) : Prop := v = none ∧ (∀ y ∈ L, y.base = x) ∧ RoadKit.Keep h h' [x] ∧ h'.size = h.size + 1 ∧ RoadKit.Exa Z h' x ST ∧ RoadKit.Fld Z h' x ST "value" "[B" (.ref h.size) ∧ RoadKit.Fld Z h' x ST "coder" "B" (.int 0) ∧
  (∃ kb, Z.vm.findClass "[B" = some kb ∧ RoadKit.Arv Z h' h.size kb .byte zn (cs.map fun c => .int (lo8 c)) (.int 0)) ∧
  ∀ (O n d : String) (w : Value), RoadKit.Fld Z h x O n d w → RoadKit.slotOf Z O n d ≠ RoadKit.slotOf Z ST "value" "[B" → RoadKit.slotOf Z O n d ≠ RoadKit.slotOf Z ST "coder" "B" → RoadKit.Fld Z h' x O n d w
/-- **new String(chars) AT A CALL, THE ARRAYS AS LISTS**: the char[] at b holds cs, not empty, no char above 255 -/
theorem backArv {p : Program} {l : Launch} {e : Env} {R : Room} {s : State} {args : Array Value} {below : List Frame} {len W : Nat} {Z : State} {a0 : Array Value} {h : Heap} (hZ : Z.Warmed39 s.vm) (hw : ∀ d ∈ words, d.before a0 Z = true) {kI : Nat} (wi : (Jvm.Cond.instantiable ST kI).before a0 Z = true)
    {x b : Addr} {k : ClassId} {zn z : Int32} {cs : List Int32} {dv v0 c0 : Value} (E : RoadKit.Exa Z h x ST) (V : RoadKit.Fld Z h x ST "value" "[B" v0) (C : RoadKit.Fld Z h x ST "coder" "B" c0) (K : RoadKit.Arv Z h b k .char zn (cs.map Value.int) dv) (S : RoadKit.Sta Z h ST "COMPACT_STRINGS" "Z" (.int z)) (hz : ¬ z = 0)
    (hlen : zn.toNatClampNeg = cs.length) (h0 : 0 < cs.length) (hbig : cs.length ≤ 536870912) (hall : ∀ c ∈ cs, ¬ 255 < c) (hfr : 4 ≤ R.frames) (hlo : W + 65 ≤ R.locals) :
    Back l R p e below s args New1.yN len W (fun P a => a = #[.ref x, .ref b] ∧ P.U.heap = h ∧ P.cells + 1 ≤ R.cells ∧ P.slots + cs.length ≤ R.slots)
      (fun P _ v B => ∃ L, QA Z x zn cs h v B.U.heap L ∧ B.locs = P.locs ++ L ∧ B.cells = P.cells + 1 ∧ B.slots = P.slots + cs.length) := by
  obtain ⟨A, K1, K2, K3, K4, K5, K6⟩ := K
  have e : A.slots.size = cs.length := K3.trans hlen
  have hat : ∀ (i : Nat) (hi : i < cs.length), A.slots[i]? = some (.int cs[i]) := fun i hi => by rw [K5 i (by omega)]; simp [List.getD_eq_getElem?_getD, hi]
  have hcv : ∀ (i : Nat) (hi : i < cs.length), cv A i = cs[i] := fun i hi => by unfold cv; rw [hat i hi]
  have hty : Typed .char A := fun i v hv => by
    have hi : i < A.slots.size := (Array.getElem?_eq_some_iff.mp hv).1
    have q := K5 i hi
    rw [hv] at q
    rw [Option.some.inj q]
    exact K6 i hi
  refine Back.mono (back hZ hw wi E V C K1 hty S hz (by omega) (by omega) (fun i hi => by rw [hcv i (by omega)]; exact hall _ (List.getElem_mem _)) hfr hlo) (fun P a hp => ⟨hp.1, hp.2.1, hp.2.2.1, by rw [e]; exact hp.2.2.2⟩) (fun P a v B hp hq => ?_)
  obtain ⟨L, ⟨q1, q2, q3, q4, q5, q6, q7, ⟨V', v1, v2, v3, v4, v5⟩, q9⟩, hl, hc, hs⟩ := hq
  refine ⟨L, ⟨q1, q2, q3, q4, q5, q6, q7, ⟨V'.cls, v3, V', v1, rfl, by rw [v4, e, hlen], K4, fun i hi => ?_, fun i hi => ?_⟩, q9⟩, hl, hc, by rw [hs, e]⟩
  · have hi' : i < cs.length := by omega
    rw [v5 i (by omega), hcv i hi']; simp [List.getD_eq_getElem?_getD, hi']
  · have hi' : i < cs.length := by omega
    simp only [List.getD_eq_getElem?_getD, List.getElem?_map, List.getElem?_eq_getElem hi', Option.map_some, Option.getD_some]
    exact fits_lo8 _
end StrChars.Road
namespace StrChars.Road
open Jvm Sem ClassFile Op Lib Jvm.Stand Jvm.Free Jvm.Free.XT
/-- WHAT COMES BACK, in the writer's own shape -/
def QV (Z : State) (x : Addr) (N : Int32) (bs : List Int32) (h : Heap) (n0 : Nat) (v : Option Value) (h' : Heap) (L : List Loc) : Prop := v = none ∧ RoadKit.Fr n0 L ∧ RoadKit.Keep h h' [x] ∧ RoadKit.Exa Z h' x ST ∧ RoadKit.Fld Z h' x ST "coder" "B" (.int 0) ∧
  ∃ (t : Addr) (kb : ClassId), n0 ≤ t ∧ h.size ≤ t ∧ ¬ t = x ∧ RoadKit.Fld Z h' x ST "value" "[B" (.ref t) ∧ RoadKit.Arv Z h' t kb .byte N (bs.map Value.int) (.int 0)
/-- **new String(chars) AT A CALL, FOR THE WRITER**: a char[] of n known ints, each 0 to 255 -/
theorem backV {p : Program} {l : Launch} {e : Env} {R : Room} {s : State} {args : Array Value} {below : List Frame} {len W : Nat} {Z : State} {a0 : Array Value} {h : Heap} (hZ : Z.Warmed39 s.vm) (hw : ∀ d ∈ words, d.before a0 Z = true) {kI : Nat} (wi : (Jvm.Cond.instantiable ST kI).before a0 Z = true)
    {x b : Addr} {kC : ClassId} {cs bs : List Int32} {d v0 c0 : Value} {z N : Int32} {n n0 : Nat} (hx0 : n0 ≤ x) (hh0 : n0 ≤ h.size) (E : RoadKit.Exa Z h x ST) (V : RoadKit.Fld Z h x ST "value" "[B" v0) (C : RoadKit.Fld Z h x ST "coder" "B" c0) (K : RoadKit.Arv Z h b kC .char N (cs.map Value.int) d) (S : RoadKit.Sta Z h ST "COMPACT_STRINGS" "Z" (.int z)) (hz : ¬ z = 0)
    (hn : cs.length = n) (hN : N = Int32.ofNat n) (l0 : 0 < n) (l2 : n ≤ 4000) (hp : ∀ c ∈ cs, ¬ c < 0 ∧ ¬ (255 : Int32) < c) (hb : bs = cs.map (fun c => c.toInt8.toInt32)) (hfr : 4 ≤ R.frames) (hlo : W + 65 ≤ R.locals) :
    Back l R p e below s args (⟨"java/lang/String", "<init>", "([C)V"⟩ : MethodName) len W (fun P a => a = #[.ref x, .ref b] ∧ P.U.heap = h ∧ P.cells + 1 ≤ R.cells ∧ P.slots + n ≤ R.slots)
      (fun P _ v B => ∃ L, QV Z x N bs h n0 v B.U.heap L ∧ B.locs = P.locs ++ L ∧ B.cells = P.cells + 1 ∧ B.slots = P.slots + n) := by
  subst hn hN hb
  refine Back.mono (backArv hZ hw wi E V C K S hz (n32 (by omega)) l0 (by omega) (fun c hc => (hp c hc).2) hfr hlo) (fun P a hp => hp) (fun P a v B hp hq => ?_)
  obtain ⟨L, ⟨q1, q2, q3, q4, q5, q6, q7, ⟨kb, v1, v2⟩, q9⟩, hl, hc, hs⟩ := hq
  exact ⟨L, ⟨q1, fun y hy => by rw [q2 y hy]; exact hx0, q3, q5, q7, h.size, kb, hh0, Nat.le_refl _, Nat.ne_of_gt E.lt, q6, by rw [List.map_map]; exact v2⟩, hl, hc, hs⟩
end StrChars.Road
end Jvm.Pilot.@@N@@

namespace Jvm.Pilot.@@N@@
open Jvm Jvm.ClassFile Sem Op Lib Jvm.Free Jvm.Stand Jvm.LawKit Jvm.RoadKit Bundle Jvm.Pilot.@@N@@.Jvm.D
open Jvm.Free.Fl (NoNaN64 Fin64 Nz64)
/-! doubles: exact values in units of the least double -/
def own_z (x : UInt64) : Int := FP.Core.zval FP.Core.b64 (FP.Core.val64 x)
theorem own_nn {i : Int} {x : UInt64} (h : FP.Core.DInt i x) : NoNaN64 x := Fl.val64_no.mpr (FP.Core.DInt_ne_nan h)
theorem own_cmpz {x y : UInt64} (hx : NoNaN64 x) (hy : NoNaN64 y) : FP.dcmp x y = some (compare (own_z x) (own_z y)) := FP.Core.dcmp_zval (Fl.val64_no.mp hx) (Fl.val64_no.mp hy)
theorem own_d0 : FP.Core.DInt 0 FP.dconst0 := by
  have h := FP.Core.l2d_int (a := 0) (by decide)
  rw [FP.Core.l2d_zero] at h; exact h
theorem own_d1 : FP.Core.DInt 1 FP.dconst1 := FP.Core.dint_one
theorem own_zi {i : Int} {x : UInt64} (h : FP.Core.DInt i x) : own_z x = i * (FP.Core.one64 : Int) := FP.Core.DInt_zval h
theorem own_fini {i : Int} {x : UInt64} (h : FP.Core.DInt i x) : Fin64 x := by
  have h' : FP.Core.Whole i (FP.Core.val64 x) := h
  cases hv : FP.Core.val64 x with
  | nan => rw [hv] at h'; exact h'.elim
  | inf s => rw [hv] at h'; exact h'.elim
  | fin s c q => exact Fl.fin64_core.mpr ⟨s, c, q, hv⟩
theorem own_one : (0 : Int) < (FP.Core.one64 : Int) := by have := FP.Core.one64_pos; omega
theorem own_nz {x : UInt64} (h : own_z x ≠ 0) : Nz64 x := Fl.nz64_core.mpr fun ⟨s, q, e⟩ => h (by
  show FP.Core.zval FP.Core.b64 (FP.Core.val64 x) = 0
  rw [e]; show FP.Core.signed s (0 * _) = 0; rw [Nat.zero_mul]; cases s <;> rfl)
theorem own_nzi {i : Int} {x : UInt64} (h : FP.Core.DInt i x) (hi : i ≠ 0) : Nz64 x := own_nz (by
  rw [own_zi h]; intro q; rcases Int.mul_eq_zero.mp q with r | r
  · exact hi r
  · have := own_one; omega)
theorem own_zn (x : UInt64) : (own_z x).natAbs = FP.Core.zmag FP.Core.b64 (FP.Core.val64 x) := FP.Core.natAbs_signed _ _
/-- the quotient, by the two values alone -/
theorem own_quot {x y : UInt64} (hx : Fin64 x) (hy : Fin64 y) (hz : own_z y ≠ 0) :
    FP.Core.val64 (FP.ddiv x y) = FP.Core.roundRatio FP.Core.b64 (FP.Core.sgn (FP.Core.val64 x) != FP.Core.sgn (FP.Core.val64 y)) (own_z x).natAbs (own_z y).natAbs 0 := by
  obtain ⟨s, c, q, ex⟩ := Fl.fin64_core.mp hx
  obtain ⟨t, d, r, ey⟩ := Fl.fin64_core.mp hy
  have fx : FP.Core.fits FP.Core.b64 (.fin s c q) := ex ▸ FP.Core.val64_fits x
  have fy : FP.Core.fits FP.Core.b64 (.fin t d r) := ey ▸ FP.Core.val64_fits y
  have hd : d ≠ 0 := fun h => hz (by
    show FP.Core.zval FP.Core.b64 (FP.Core.val64 y) = 0
    rw [ey, h]; show FP.Core.signed t (0 * _) = 0; rw [Nat.zero_mul]; cases t <;> rfl)
  rw [own_zn, own_zn, show FP.ddiv x y = FP.Core.ddiv x y from rfl, FP.Core.val64_ddiv, ex, ey]
  show (if d = 0 then _ else FP.Core.roundRatio FP.Core.b64 (s != t) c d (q - r)) = FP.Core.roundRatio FP.Core.b64 (s != t) (c * 2 ^ (q - FP.Core.b64.qmin).toNat) (d * 2 ^ (r - FP.Core.b64.qmin).toNat) 0
  rw [if_neg hd]
  refine FP.Core.roundRatio_congr (Nat.pos_of_ne_zero hd) (Nat.mul_pos (Nat.pos_of_ne_zero hd) (Nat.two_pow_pos _)) ?_
  have h1 := fx.2.1
  have h2 := fy.2.1
  have e1 : (r - FP.Core.b64.qmin).toNat + (q - r - 0).toNat = (q - FP.Core.b64.qmin).toNat + (0 - (q - r)).toNat := by omega
  calc c * (d * 2 ^ (r - FP.Core.b64.qmin).toNat) * 2 ^ (q - r - 0).toNat = c * d * (2 ^ (r - FP.Core.b64.qmin).toNat * 2 ^ (q - r - 0).toNat) := by
        rw [Nat.mul_assoc, Nat.mul_assoc, Nat.mul_assoc]
    _ = c * d * (2 ^ (q - FP.Core.b64.qmin).toNat * 2 ^ (0 - (q - r)).toNat) := by rw [← Nat.pow_add, ← Nat.pow_add, e1]
    _ = c * 2 ^ (q - FP.Core.b64.qmin).toNat * d * 2 ^ (0 - (q - r)).toNat := by
        rw [Nat.mul_right_comm c _ d, Nat.mul_assoc (c * d)]
theorem own_noNaN_of {x : UInt64} {s : Bool} {A B : Nat} {e : Int} (h : FP.Core.val64 x = FP.Core.roundRatio FP.Core.b64 s A B e) : NoNaN64 x :=
  Fl.val64_no.mpr (h ▸ FP.Core.roundRatio_ne_nan _ _ _ _ _)
theorem own_div_nn {x y : UInt64} (hx : Fin64 x) (hy : Fin64 y) (hz : own_z y ≠ 0) : NoNaN64 (FP.ddiv x y) := Fl.ddiv_out hx.noNaN hy (own_nz hz)
/-- what is rounded below (above) a double stays there -/
theorem own_rr_le {s : Bool} {A B : Nat} {V : UInt64} (hB : 0 < B) (hV : NoNaN64 V) (h : A * FP.Core.one64 ≤ (own_z V).natAbs * B) :
    FP.Core.zmag FP.Core.b64 (FP.Core.roundRatio FP.Core.b64 s A B 0) ≤ (own_z V).natAbs := by
  rw [own_zn] at h ⊢
  refine FP.Core.zmag_roundRatio_le FP.Core.good_b64 hB (FP.Core.val64_fits V) (Fl.val64_no.mp hV) (e0 := FP.Core.b64.qmin) (Int.le_refl _) (by decide +kernel) ?_
  rw [Int.sub_self]
  show A * 2 ^ (0 - FP.Core.b64.qmin).toNat ≤ _ * 1 * B
  rw [Nat.mul_one, Int.zero_sub, FP.Core.pow_qmin64]; exact h
theorem own_rr_ge {s : Bool} {A B : Nat} {V : UInt64} (hB : 0 < B) (h : (own_z V).natAbs * B ≤ A * FP.Core.one64) :
    (own_z V).natAbs ≤ FP.Core.zmag FP.Core.b64 (FP.Core.roundRatio FP.Core.b64 s A B 0) := by
  rw [own_zn] at h ⊢
  refine FP.Core.zmag_roundRatio_ge FP.Core.good_b64 hB (FP.Core.val64_fits V) (e0 := FP.Core.b64.qmin) (Int.le_refl _) (by decide +kernel) ?_
  rw [Int.sub_self]
  show _ * 1 * B ≤ A * 2 ^ (0 - FP.Core.b64.qmin).toNat
  rw [Nat.mul_one, Int.zero_sub, FP.Core.pow_qmin64]; exact h
theorem own_z_signed {x : UInt64} {s : Bool} {A B : Nat} (h : FP.Core.val64 x = FP.Core.roundRatio FP.Core.b64 s A B 0) :
    own_z x = FP.Core.signed s (FP.Core.zmag FP.Core.b64 (FP.Core.roundRatio FP.Core.b64 s A B 0)) := by
  show FP.Core.signed _ _ = _
  rw [h, FP.Core.sgn_roundRatio]
/-- a quotient of two that are not below nought -/
theorem own_div_ge0 {x y : UInt64} (hx : Fin64 x) (hy : Fin64 y) (hz : own_z y ≠ 0) (h0 : 0 ≤ own_z x) (h1 : 0 ≤ own_z y) : 0 ≤ own_z (FP.ddiv x y) := by
  have hq := own_quot hx hy hz
  rw [own_z_signed hq]
  cases hs : (FP.Core.sgn (FP.Core.val64 x) != FP.Core.sgn (FP.Core.val64 y)) with
  | false => exact Int.natCast_nonneg _
  | true =>
    have hy2 : FP.Core.sgn (FP.Core.val64 y) = false := by
      cases hs2 : FP.Core.sgn (FP.Core.val64 y) with
      | false => rfl
      | true =>
        exfalso; have : own_z y = -(FP.Core.zmag FP.Core.b64 (FP.Core.val64 y) : Int) := by show FP.Core.signed _ _ = _; rw [hs2]; rfl
        omega
    have hx2 : FP.Core.sgn (FP.Core.val64 x) = true := by rw [hy2] at hs; simpa using hs
    have hx3 : own_z x = -(FP.Core.zmag FP.Core.b64 (FP.Core.val64 x) : Int) := by show FP.Core.signed _ _ = _; rw [hx2]; rfl
    have hx4 : (own_z x).natAbs = 0 := by omega
    rw [hx4, FP.Core.roundRatio, if_pos rfl]
    show 0 ≤ FP.Core.signed true (0 * _); rw [Nat.zero_mul]; decide
theorem own_div_le {x y V : UInt64} (hx : Fin64 x) (hy : Fin64 y) (hz : own_z y ≠ 0) (hV : NoNaN64 V) (h0 : 0 ≤ own_z x) (h1 : 0 ≤ own_z y) (h2 : 0 ≤ own_z V)
    (h : own_z x * (FP.Core.one64 : Int) ≤ own_z V * own_z y) : own_z (FP.ddiv x y) ≤ own_z V := by
  have hq := own_quot hx hy hz
  have hge := own_div_ge0 hx hy hz h0 h1
  have hB : 0 < (own_z y).natAbs := by omega
  have h3 : (own_z x).natAbs * FP.Core.one64 ≤ (own_z V).natAbs * (own_z y).natAbs := by
    have e1 : ((own_z x).natAbs : Int) = own_z x := by omega
    have e2 : ((own_z y).natAbs : Int) = own_z y := by omega
    have e3 : ((own_z V).natAbs : Int) = own_z V := by omega
    have : (((own_z x).natAbs * FP.Core.one64 : Nat) : Int) ≤ (((own_z V).natAbs * (own_z y).natAbs : Nat) : Int) := by
      rw [Int.natCast_mul, Int.natCast_mul, e1, e2, e3]; exact h
    exact Int.ofNat_le.mp this
  have := own_rr_le (s := FP.Core.sgn (FP.Core.val64 x) != FP.Core.sgn (FP.Core.val64 y)) hB hV h3
  have h4 : (own_z (FP.ddiv x y)).natAbs ≤ (own_z V).natAbs := by rw [own_zn, hq]; exact this
  omega
/-- two doubles of the same whole value compare as equal -/
theorem own_eq0 {x y : UInt64} {i : Int} (o : CmpOp) (hx : FP.Core.DInt i x) (hy : FP.Core.DInt i y) : cmpValue (FP.dcmp x y) o = 0 := by
  rw [own_cE o (FP.Core.dcmp_int hx hy), own_c_eq rfl]
theorem own_mb {a b A B : Int} (h1 : -A ≤ a) (h2 : a ≤ A) (h3 : -B ≤ b) (h4 : b ≤ B) (h : A * B ≤ 9007199254740992) : (a * b).natAbs ≤ 2 ^ 53 := by
  rw [Int.natAbs_mul]
  have e1 : a.natAbs ≤ A.toNat := by omega
  have e2 : b.natAbs ≤ B.toNat := by omega
  have e3 : a.natAbs * b.natAbs ≤ A.toNat * B.toNat := Nat.mul_le_mul e1 e2
  have e4 : ((A.toNat * B.toNat : Nat) : Int) = A * B := by rw [Int.natCast_mul, Int.toNat_of_nonneg (by omega), Int.toNat_of_nonneg (by omega)]
  have e5 : (2 : Nat) ^ 53 = 9007199254740992 := by decide
  omega
theorem own_dl (a : Int64) {i : Int} (h : a.toInt = i) (hb : i.natAbs ≤ 2 ^ 53) : FP.Core.DInt i (FP.l2d a) := by subst h; exact FP.Core.l2d_int hb
theorem own_lm {a b : Int64} (h : (a.toInt * b.toInt).natAbs ≤ 2 ^ 53) : (a * b).toInt = a.toInt * b.toInt := by
  have e5 : (2 : Nat) ^ 53 = 9007199254740992 := by decide
  exact Jvm.Kit.i64_mul (by omega) (by omega)
theorem own_sgn_mul {s t : Bool} {b : Nat} {k : Int} (hb : 0 < b) (h : FP.Core.signed s (k.natAbs * b) = k * FP.Core.signed t b) : FP.Core.signed (s != t) k.natAbs = k := by
  have hb' : (0 : Int) < (b : Int) := by omega
  have e : ((k.natAbs * b : Nat) : Int) = (k.natAbs : Int) * (b : Int) := Int.natCast_mul _ _
  have key : ∀ z : Int, (k.natAbs : Int) * (b : Int) = z * (b : Int) → (k.natAbs : Int) = z := fun z q => Int.eq_of_mul_eq_mul_right (by omega) q
  cases s <;> cases t
  · show (k.natAbs : Int) = k
    apply key; rw [← e]; exact h
  · show -(k.natAbs : Int) = k
    have h' : ((k.natAbs * b : Nat) : Int) = k * -(b : Int) := h
    have := key (-k) (by rw [← e, h', Int.mul_neg, Int.neg_mul]); omega
  · show -(k.natAbs : Int) = k
    have h' : -((k.natAbs * b : Nat) : Int) = k * (b : Int) := h
    have := key (-k) (by rw [← e, Int.neg_mul, ← h', Int.neg_neg]); omega
  · show (k.natAbs : Int) = k
    have h' : -((k.natAbs * b : Nat) : Int) = k * -(b : Int) := h
    apply key; rw [← e]
    have : -((k.natAbs * b : Nat) : Int) = -(k * (b : Int)) := by rw [h', Int.mul_neg]
    omega
/-- a quotient of whole values that comes out even -/
theorem own_ddiv_int {k j : Int} {x y : UInt64} (hx : FP.Core.DInt (k * j) x) (hy : FP.Core.DInt j y) (hj : j ≠ 0) (hk : k.natAbs ≤ 2 ^ 53) : FP.Core.DInt k (FP.ddiv x y) := by
  have zx := own_zi hx
  have zy := own_zi hy
  have hz : own_z y ≠ 0 := by rw [zy]; exact Int.mul_ne_zero hj (by have := own_one; omega)
  have hq := own_quot (own_fini hx) (own_fini hy) hz
  have ha : (own_z x).natAbs = k.natAbs * (own_z y).natAbs := by rw [zx, zy, Int.mul_assoc, Int.natAbs_mul]
  have hb : 0 < (own_z y).natAbs := by omega
  show FP.Core.Whole k (FP.Core.val64 (FP.ddiv x y))
  rw [hq, ha, FP.Core.roundRatio_congr (A' := k.natAbs) (B' := 1) (e' := 0) hb (by decide) (by rw [Nat.mul_one])]
  refine FP.Core.whole_round FP.Core.good_b64 FP.Core.wide_b64 hk (d := .fin (FP.Core.sgn (FP.Core.val64 x) != FP.Core.sgn (FP.Core.val64 y)) k.natAbs 0) ?_
  show FP.Core.signed _ (k.natAbs * 1) = k * ((1 : Nat) : Int)
  rw [Nat.mul_one, show ((1 : Nat) : Int) = 1 from rfl, Int.mul_one]
  refine own_sgn_mul hb ?_
  have e1 : FP.Core.signed (FP.Core.sgn (FP.Core.val64 x)) (own_z x).natAbs = own_z x := by rw [own_zn]; rfl
  have e2 : FP.Core.signed (FP.Core.sgn (FP.Core.val64 y)) (own_z y).natAbs = own_z y := by rw [own_zn]; rfl
  rw [← ha, e1, e2, zx, zy, Int.mul_assoc]
theorem own_zmag_s (s : Bool) (A B : Nat) (e : Int) : FP.Core.zmag FP.Core.b64 (FP.Core.roundRatio FP.Core.b64 s A B e) = FP.Core.zmag FP.Core.b64 (FP.Core.roundRatio FP.Core.b64 false A B e) := by
  cases s with
  | false => rfl
  | true =>
    rw [show FP.Core.roundRatio FP.Core.b64 true A B e = FP.Core.negate (FP.Core.roundRatio FP.Core.b64 false A B e) from (FP.Core.negate_roundRatio FP.Core.b64 false A B e).symm]
    cases FP.Core.roundRatio FP.Core.b64 false A B e <;> rfl
theorem own_div_n {x y : UInt64} (hx : Fin64 x) (hy : Fin64 y) (hz : own_z y ≠ 0) : (own_z (FP.ddiv x y)).natAbs = FP.Core.zmag FP.Core.b64 (FP.Core.roundRatio FP.Core.b64 false (own_z x).natAbs (own_z y).natAbs 0) := by
  rw [own_zn, own_quot hx hy hz, own_zmag_s]
/-- two quotients of the same ratio, none below nought -/
theorem own_div_congr {x y x' y' : UInt64} (hx : Fin64 x) (hy : Fin64 y) (hz : own_z y ≠ 0) (hx' : Fin64 x') (hy' : Fin64 y') (hz' : own_z y' ≠ 0)
    (g1 : 0 ≤ own_z x) (g2 : 0 ≤ own_z y) (g3 : 0 ≤ own_z x') (g4 : 0 ≤ own_z y') (h : own_z x * own_z y' = own_z x' * own_z y) : own_z (FP.ddiv x y) = own_z (FP.ddiv x' y') := by
  have e1 := own_div_n hx hy hz
  have e2 := own_div_n hx' hy' hz'
  have k1 := own_div_ge0 hx hy hz g1 g2
  have k2 := own_div_ge0 hx' hy' hz' g3 g4
  have h' : (own_z x).natAbs * (own_z y').natAbs = (own_z x').natAbs * (own_z y).natAbs := by rw [← Int.natAbs_mul, ← Int.natAbs_mul, h]
  rw [FP.Core.roundRatio_congr (A' := (own_z x').natAbs) (B' := (own_z y').natAbs) (e' := 0) (by omega) (by omega) (by rw [h'])] at e1
  omega
/-- m * 2^k units is a double -/
theorem own_rep (m k : Nat) (hm : m < 2 ^ 53) (hk : k ≤ 2045) : ∃ V : UInt64, Fin64 V ∧ own_z V = ((m * 2 ^ k : Nat) : Int) := by
  have hq : FP.Core.b64.qmin = -1074 := FP.Core.qmin_b64
  have hq2 : FP.Core.b64.qmax = 971 := by decide
  obtain ⟨c, q, e1, e2⟩ := FP.Core.round_exact FP.Core.good_b64 false (c := m) (q := (k : Int) - 1074) hm (by rw [hq]; omega) (by rw [hq2]; omega)
  have hv : FP.Core.val64 (FP.Core.of64 (FP.Core.round FP.Core.b64 (.fin false m ((k : Int) - 1074)))) = .fin false c q := by
    rw [FP.Core.val64_of64 (FP.Core.round_fits FP.Core.good_b64 _), e1]
  refine ⟨_, Fl.fin64_core.mpr ⟨_, _, _, hv⟩, ?_⟩
  show FP.Core.zval FP.Core.b64 _ = _
  rw [hv]
  show ((FP.Core.inUnits c q FP.Core.b64.qmin : Nat) : Int) = _
  rw [e2, FP.Core.inUnits, hq, show ((k : Int) - 1074 - -1074).toNat = k by omega]
/-- a quotient that comes out even in some binary place -/
theorem own_div_exact {x y : UInt64} (hx : Fin64 x) (hy : Fin64 y) (hz : own_z y ≠ 0) (g1 : 0 ≤ own_z x) (g2 : 0 ≤ own_z y) (m k : Nat) (hm : m < 2 ^ 53) (hk : k ≤ 2045)
    (h : own_z x * (FP.Core.one64 : Int) = ((m * 2 ^ k : Nat) : Int) * own_z y) : own_z (FP.ddiv x y) = ((m * 2 ^ k : Nat) : Int) := by
  obtain ⟨V, fV, zV⟩ := own_rep m k hm hk
  have k1 := own_div_ge0 hx hy hz g1 g2
  have e1 := own_div_n hx hy hz
  have h3 : (own_z x).natAbs * FP.Core.one64 = (own_z V).natAbs * (own_z y).natAbs := by
    have := congrArg Int.natAbs h
    rw [Int.natAbs_mul, Int.natAbs_mul, ← zV] at this
    exact this
  have l1 := own_rr_le (s := false) (A := (own_z x).natAbs) (B := (own_z y).natAbs) (V := V) (by omega) fV.noNaN (Nat.le_of_eq h3)
  have l2 := own_rr_ge (s := false) (A := (own_z x).natAbs) (B := (own_z y).natAbs) (V := V) (by omega) (Nat.le_of_eq h3.symm)
  omega
theorem own_eqz {x y : UInt64} (o : CmpOp) (hx : NoNaN64 x) (hy : NoNaN64 y) (h : own_z x = own_z y) : cmpValue (FP.dcmp x y) o = 0 := by
  rw [own_cE o (own_cmpz hx hy), own_c_eq h]
theorem own_ge0 {x : UInt64} (h : 0 ≤ own_z x) : ¬ own_z x < own_z FP.dconst0 := by rw [own_zi own_d0, Int.zero_mul]; exact Int.not_lt.mpr h
theorem own_le1 {x : UInt64} (h : own_z x ≤ own_z FP.dconst1) : ¬ own_z FP.dconst1 < own_z x := Int.not_lt.mpr h
/-! exact sums, differences, products and quotients in some binary place -/
theorem own_z_neg {x : UInt64} (h : Fin64 x) : own_z (FP.dneg x) = -own_z x ∧ Fin64 (FP.dneg x) := by
  obtain ⟨s, c, q, e⟩ := Fl.fin64_core.mp h
  have hv : FP.Core.val64 (FP.dneg x) = FP.Core.negate (FP.Core.val64 x) := FP.val64_dneg x
  refine ⟨?_, Fl.fin64_core.mpr ⟨!s, c, q, by rw [hv, e]; rfl⟩⟩
  show FP.Core.zval _ _ = -FP.Core.zval _ _
  rw [hv, FP.Core.zval_negate]
theorem own_repI (m : Int) (k : Nat) (hm : m.natAbs < 2 ^ 53) (hk : k ≤ 2045) : ∃ V : UInt64, Fin64 V ∧ own_z V = m * ((2 ^ k : Nat) : Int) := by
  obtain ⟨V, fV, zV⟩ := own_rep m.natAbs k hm hk
  rw [Int.natCast_mul] at zV
  by_cases h : 0 ≤ m
  · exact ⟨V, fV, by rw [zV, Int.natAbs_of_nonneg h]⟩
  · refine ⟨FP.dneg V, (own_z_neg fV).2, ?_⟩
    rw [(own_z_neg fV).1, zV, ← Int.neg_mul]
    congr 1; omega
/-- what is finite and rounds from a value that is a double is that double -/
theorem own_round_exact {x : UInt64} {sg : Bool} {n : Nat} {e : Int} (hv : FP.Core.val64 x = FP.Core.round FP.Core.b64 (.fin sg n e)) (he : FP.Core.b64.qmin ≤ e) {V : UInt64} (fV : Fin64 V) (h : FP.Core.signed sg (FP.Core.inUnits n e FP.Core.b64.qmin) = own_z V) :
    own_z x = own_z V ∧ Fin64 x := by
  have nV := Fl.val64_no.mp fV.noNaN
  have h1 := FP.Core.zval_round_le FP.Core.good_b64 (s := sg) (c := n) (q := e) (V := FP.Core.val64 V) (FP.Core.val64_fits V) nV (e0 := FP.Core.b64.qmin) (Int.le_refl _) he (by
    rw [Int.sub_self]; show _ ≤ _ * ((1 : Nat) : Int); rw [show ((1 : Nat) : Int) = 1 from rfl, Int.mul_one]; exact Int.le_of_eq h)
  have h2 := FP.Core.zval_round_ge FP.Core.good_b64 (s := sg) (c := n) (q := e) (V := FP.Core.val64 V) (FP.Core.val64_fits V) nV (e0 := FP.Core.b64.qmin) (Int.le_refl _) he (by
    rw [Int.sub_self]; show _ * ((1 : Nat) : Int) ≤ _; rw [show ((1 : Nat) : Int) = 1 from rfl, Int.mul_one]; exact Int.le_of_eq h.symm)
  have hz : own_z x = own_z V := by
    show FP.Core.zval _ (FP.Core.val64 x) = FP.Core.zval _ (FP.Core.val64 V)
    rw [hv]; exact Int.le_antisymm h1 h2
  refine ⟨hz, ?_⟩
  have nx : NoNaN64 x := Fl.val64_no.mpr (by rw [hv]; exact fun z => FP.Core.roundRatio_ne_nan _ _ _ _ _ z)
  cases hx : FP.Core.val64 x with
  | nan => exact absurd hx (Fl.val64_no.mp nx)
  | fin s c q => exact Fl.fin64_core.mpr ⟨s, c, q, hx⟩
  | inf s =>
    exfalso
    have b := (Fl.fin64_core.mp fV).zval_lt
    have e1 : (own_z x).natAbs = FP.Core.b64.tails * 2 ^ (FP.Core.b64.exps - 2) := by rw [own_zn, hx]; rfl
    have e2 : (own_z V).natAbs = FP.Core.zmag FP.Core.b64 (FP.Core.val64 V) := own_zn V
    rw [hz, e2] at e1
    omega
theorem own_add_exact {x y : UInt64} (hx : Fin64 x) (hy : Fin64 y) (m : Int) (k : Nat) (hm : m.natAbs < 2 ^ 53) (hk : k ≤ 2045) (h : own_z x + own_z y = m * ((2 ^ k : Nat) : Int)) : own_z (FP.dadd x y) = m * ((2 ^ k : Nat) : Int) ∧ Fin64 (FP.dadd x y) := by
  obtain ⟨V, fV, zV⟩ := own_repI m k hm hk
  obtain ⟨s, c, q, ex⟩ := Fl.fin64_core.mp hx
  obtain ⟨t, d, r, ey⟩ := Fl.fin64_core.mp hy
  obtain ⟨sg, n, e, e1, e2, e3⟩ := FP.Core.sum_units (f := FP.Core.b64) (ex ▸ FP.Core.val64_fits x) (ey ▸ FP.Core.val64_fits y)
  have hv : FP.Core.val64 (FP.dadd x y) = FP.Core.round FP.Core.b64 (.fin sg n e) := by
    rw [show FP.dadd x y = FP.Core.dadd x y from rfl, FP.Core.val64_dadd, ex, ey, e1]
  rw [← ex, ← ey] at e3
  rw [← zV]
  exact own_round_exact hv e2 fV (e3.trans (h.trans zV.symm))
theorem own_sub_exact {x y : UInt64} (hx : Fin64 x) (hy : Fin64 y) (m : Int) (k : Nat) (hm : m.natAbs < 2 ^ 53) (hk : k ≤ 2045) (h : own_z x - own_z y = m * ((2 ^ k : Nat) : Int)) : own_z (FP.dsub x y) = m * ((2 ^ k : Nat) : Int) ∧ Fin64 (FP.dsub x y) := by
  obtain ⟨V, fV, zV⟩ := own_repI m k hm hk
  obtain ⟨s, c, q, ex⟩ := Fl.fin64_core.mp hx
  obtain ⟨t, d, r, ey⟩ := Fl.fin64_core.mp hy
  have fy : FP.Core.fits FP.Core.b64 (.fin (!t) d r) := FP.Core.negate_fits (d := .fin t d r) (ey ▸ FP.Core.val64_fits y)
  obtain ⟨sg, n, e, e1, e2, e3⟩ := FP.Core.sum_units (f := FP.Core.b64) (ex ▸ FP.Core.val64_fits x) fy
  have hv : FP.Core.val64 (FP.dsub x y) = FP.Core.round FP.Core.b64 (.fin sg n e) := by
    rw [show FP.dsub x y = FP.Core.dsub x y from rfl, FP.Core.val64_dsub, ex, ey, ← e1]; rfl
  have hn : FP.Core.zval FP.Core.b64 (.fin (!t) d r) = -own_z y := by
    show FP.Core.zval FP.Core.b64 (FP.Core.negate (.fin t d r)) = -FP.Core.zval FP.Core.b64 (FP.Core.val64 y)
    rw [FP.Core.zval_negate, ey]
  rw [← ex, hn] at e3
  rw [← zV]
  exact own_round_exact hv e2 fV (e3.trans (by rw [zV, ← h]; rfl))
theorem own_fin_of_z {x V : UInt64} (nx : NoNaN64 x) (fV : Fin64 V) (hz : own_z x = own_z V) : Fin64 x := by
  cases hx : FP.Core.val64 x with
  | nan => exact absurd hx (Fl.val64_no.mp nx)
  | fin s c q => exact Fl.fin64_core.mpr ⟨s, c, q, hx⟩
  | inf s =>
    exfalso
    have b := (Fl.fin64_core.mp fV).zval_lt
    have e1 : (own_z x).natAbs = FP.Core.b64.tails * 2 ^ (FP.Core.b64.exps - 2) := by rw [own_zn, hx]; rfl
    have e2 : (own_z V).natAbs = FP.Core.zmag FP.Core.b64 (FP.Core.val64 V) := own_zn V
    rw [hz, e2] at e1
    omega
theorem own_divI_exact {x y : UInt64} (hx : Fin64 x) (hy : Fin64 y) (hz : own_z y ≠ 0) (m : Int) (k : Nat) (hm : m.natAbs < 2 ^ 53) (hk : k ≤ 2045)
    (h : own_z x * (FP.Core.one64 : Int) = m * ((2 ^ k : Nat) : Int) * own_z y) : own_z (FP.ddiv x y) = m * ((2 ^ k : Nat) : Int) ∧ Fin64 (FP.ddiv x y) := by
  obtain ⟨V, fV, zV⟩ := own_repI m k hm hk
  have hq := own_quot hx hy hz
  have nn := own_div_nn hx hy hz
  have hb : 0 < (own_z y).natAbs := by omega
  have h3 : (own_z x).natAbs * FP.Core.one64 = (own_z V).natAbs * (own_z y).natAbs := by
    have := congrArg Int.natAbs h
    rw [Int.natAbs_mul, Int.natAbs_mul, ← zV] at this
    exact this
  have l1 := own_rr_le (s := FP.Core.sgn (FP.Core.val64 x) != FP.Core.sgn (FP.Core.val64 y)) (A := (own_z x).natAbs) (B := (own_z y).natAbs) (V := V) hb fV.noNaN (Nat.le_of_eq h3)
  have l2 := own_rr_ge (s := FP.Core.sgn (FP.Core.val64 x) != FP.Core.sgn (FP.Core.val64 y)) (A := (own_z x).natAbs) (B := (own_z y).natAbs) (V := V) hb (Nat.le_of_eq h3.symm)
  have hz' : own_z (FP.ddiv x y) = own_z V := by
    rw [own_z_signed hq, Nat.le_antisymm l1 l2]
    refine own_sgn_mul hb ?_
    have e1 : FP.Core.signed (FP.Core.sgn (FP.Core.val64 x)) (own_z x).natAbs = own_z x := by rw [own_zn]; rfl
    have e2 : FP.Core.signed (FP.Core.sgn (FP.Core.val64 y)) (own_z y).natAbs = own_z y := by rw [own_zn]; rfl
    rw [← h3, FP.Core.signed_mul, e1, e2, h, zV]
  exact ⟨hz'.trans zV, own_fin_of_z nn fV hz'⟩
/-! products, by the two values alone -/
theorem own_prod {x y : UInt64} (hx : Fin64 x) (hy : Fin64 y) :
    FP.Core.val64 (FP.dmul x y) = FP.Core.roundRatio FP.Core.b64 (FP.Core.sgn (FP.Core.val64 x) != FP.Core.sgn (FP.Core.val64 y)) ((own_z x).natAbs * (own_z y).natAbs) (FP.Core.one64 * FP.Core.one64) 0 := by
  obtain ⟨s, c, q, ex⟩ := Fl.fin64_core.mp hx
  obtain ⟨t, d, r, ey⟩ := Fl.fin64_core.mp hy
  have fx : FP.Core.fits FP.Core.b64 (.fin s c q) := ex ▸ FP.Core.val64_fits x
  have fy : FP.Core.fits FP.Core.b64 (.fin t d r) := ey ▸ FP.Core.val64_fits y
  have hq : 0 < FP.Core.one64 * FP.Core.one64 := Nat.mul_pos FP.Core.one64_pos FP.Core.one64_pos
  rw [own_zn, own_zn, show FP.dmul x y = FP.Core.dmul x y from rfl, FP.Core.val64_dmul, ex, ey]
  show FP.Core.roundRatio FP.Core.b64 (s != t) (c * d) 1 (q + r) = FP.Core.roundRatio FP.Core.b64 (s != t) (c * 2 ^ (q - FP.Core.b64.qmin).toNat * (d * 2 ^ (r - FP.Core.b64.qmin).toNat)) (FP.Core.one64 * FP.Core.one64) 0
  refine FP.Core.roundRatio_congr Nat.one_pos hq ?_
  have h1 := fx.2.1
  have h2 := fy.2.1
  have e1 : (-FP.Core.b64.qmin).toNat + (-FP.Core.b64.qmin).toNat + (q + r - 0).toNat = (q - FP.Core.b64.qmin).toNat + (r - FP.Core.b64.qmin).toNat + (0 - (q + r)).toNat := by
    have hm : FP.Core.b64.qmin = -1074 := by decide
    rw [hm] at h1 h2 ⊢; omega
  rw [← FP.Core.pow_qmin64, Nat.mul_one]
  calc c * d * (2 ^ (-FP.Core.b64.qmin).toNat * 2 ^ (-FP.Core.b64.qmin).toNat) * 2 ^ (q + r - 0).toNat
      = c * d * (2 ^ (-FP.Core.b64.qmin).toNat * 2 ^ (-FP.Core.b64.qmin).toNat * 2 ^ (q + r - 0).toNat) := by rw [Nat.mul_assoc]
    _ = c * d * (2 ^ (q - FP.Core.b64.qmin).toNat * 2 ^ (r - FP.Core.b64.qmin).toNat * 2 ^ (0 - (q + r)).toNat) := by rw [← Nat.pow_add, ← Nat.pow_add, e1, Nat.pow_add, Nat.pow_add]
    _ = c * 2 ^ (q - FP.Core.b64.qmin).toNat * (d * 2 ^ (r - FP.Core.b64.qmin).toNat) * 2 ^ (0 - (q + r)).toNat := by
        rw [← Nat.mul_assoc, ← Nat.mul_assoc, Nat.mul_assoc c d, Nat.mul_comm d, ← Nat.mul_assoc c, Nat.mul_assoc _ d]
theorem own_mul_nn {x y : UInt64} (hx : Fin64 x) (hy : Fin64 y) : NoNaN64 (FP.dmul x y) := own_noNaN_of (own_prod hx hy)
theorem own_sgnz (x : UInt64) : FP.Core.signed (FP.Core.sgn (FP.Core.val64 x)) (own_z x).natAbs = own_z x := by rw [own_zn]; rfl
theorem own_signed2 (s t : Bool) (a b : Nat) : FP.Core.signed (s != t) (a * b) = FP.Core.signed s a * FP.Core.signed t b := by
  cases s <;> cases t <;> simp [FP.Core.signed, Int.natCast_mul, Int.neg_mul, Int.mul_neg]
theorem own_q1 : 0 < FP.Core.one64 * FP.Core.one64 := Nat.mul_pos FP.Core.one64_pos FP.Core.one64_pos
theorem own_prod_le {x y V : UInt64} (hx : Fin64 x) (hy : Fin64 y) (hV : NoNaN64 V) (h : (own_z x).natAbs * (own_z y).natAbs ≤ (own_z V).natAbs * FP.Core.one64) : (own_z (FP.dmul x y)).natAbs ≤ (own_z V).natAbs := by
  rw [own_zn (FP.dmul x y), own_prod hx hy]
  refine own_rr_le own_q1 hV ?_
  rw [← Nat.mul_assoc]; exact Nat.mul_le_mul_right _ h
theorem own_prod_ge {x y V : UInt64} (hx : Fin64 x) (hy : Fin64 y) (h : (own_z V).natAbs * FP.Core.one64 ≤ (own_z x).natAbs * (own_z y).natAbs) : (own_z V).natAbs ≤ (own_z (FP.dmul x y)).natAbs := by
  rw [own_zn (FP.dmul x y), own_prod hx hy]
  refine own_rr_ge own_q1 ?_
  rw [← Nat.mul_assoc]; exact Nat.mul_le_mul_right _ h
theorem own_mul_exact {x y : UInt64} (hx : Fin64 x) (hy : Fin64 y) (m : Int) (k : Nat) (hm : m.natAbs < 2 ^ 53) (hk : k ≤ 2045)
    (h : own_z x * own_z y = m * ((2 ^ k : Nat) : Int) * (FP.Core.one64 : Int)) : own_z (FP.dmul x y) = m * ((2 ^ k : Nat) : Int) ∧ Fin64 (FP.dmul x y) := by
  obtain ⟨V, fV, zV⟩ := own_repI m k hm hk
  have h3 : (own_z x).natAbs * (own_z y).natAbs = (own_z V).natAbs * FP.Core.one64 := by
    have := congrArg Int.natAbs h
    rw [Int.natAbs_mul, Int.natAbs_mul, ← zV] at this
    exact this
  have l1 := own_prod_le hx hy fV.noNaN (Nat.le_of_eq h3)
  have l2 := own_prod_ge hx hy (Nat.le_of_eq h3.symm)
  have l3 := Nat.le_antisymm l1 l2
  have hz' : own_z (FP.dmul x y) = own_z V := by
    rw [own_z_signed (own_prod hx hy)]
    rw [own_zn, own_prod hx hy] at l3
    rw [l3]
    have e1 : FP.Core.signed (FP.Core.sgn (FP.Core.val64 x) != FP.Core.sgn (FP.Core.val64 y)) (own_z V).natAbs * (FP.Core.one64 : Int) = own_z V * (FP.Core.one64 : Int) := by
      rw [← FP.Core.signed_mul, ← h3, own_signed2, own_sgnz, own_sgnz, h, zV]
    have := own_one
    exact Int.eq_of_mul_eq_mul_right (by omega) e1
  exact ⟨hz'.trans zV, own_fin_of_z (own_mul_nn hx hy) fV hz'⟩
/-- a product of two above nought that isn't below a double above nought -/
theorem own_mul_pos {x y : UInt64} (hx : Fin64 x) (hy : Fin64 y) (h0 : 0 < own_z x) (h1 : 0 < own_z y) : 0 ≤ own_z (FP.dmul x y) := by
  have s1 : FP.Core.sgn (FP.Core.val64 x) = false := by
    cases hs : FP.Core.sgn (FP.Core.val64 x) with
    | false => rfl
    | true => exfalso; have := own_sgnz x; rw [hs] at this; simp only [FP.Core.signed, if_true] at this; omega
  have s2 : FP.Core.sgn (FP.Core.val64 y) = false := by
    cases hs : FP.Core.sgn (FP.Core.val64 y) with
    | false => rfl
    | true => exfalso; have := own_sgnz y; rw [hs] at this; simp only [FP.Core.signed, if_true] at this; omega
  rw [own_z_signed (own_prod hx hy), s1, s2]
  exact Int.natCast_nonneg _
/-! arrays by the list of what they hold -/
def own_A (Z : State) (h : Heap) (a : Addr) (ty : FieldType) (vs : List Value) : Prop := ∃ c : Cell, Arr Z h a c ty ∧ c.slots.toList = vs
section OwnArr
variable {p : Program} {l : Launch} {e : Env} {R : Room} {s : State} {m : MethodId} {args : Array Value} {below : List Frame} {meth : Method} {c : Code} {T : State} {locs : List Loc} {cells slots : Nat} {Z : State} {h h' : Heap} {a b : Addr} {ty : FieldType} {vs : List Value} {sl : Nat} {v : Value} {ws : List Addr}
theorem own_A.lt (F : own_A Z h a ty vs) : a < h.size := by obtain ⟨c, A, -⟩ := F; exact A.lt
theorem own_A.ext (F : own_A Z h a ty vs) (E : Ext h h') : own_A Z h' a ty vs := by obtain ⟨c, A, r⟩ := F; exact ⟨c, A.ext E, r⟩
theorem own_A.other (F : own_A Z h b ty vs) (W : Wr h h' a sl v) (q : b ≠ a) : own_A Z h' b ty vs := by obtain ⟨c, A, r⟩ := F; exact ⟨c, A.other W q, r⟩
theorem own_A.keep (F : own_A Z h a ty vs) (K : Keep h h' ws) (q : a ∉ ws) : own_A Z h' a ty vs := by obtain ⟨c, A, r⟩ := F; exact ⟨c, ⟨K.2.1 a c A.1 q, A.2⟩, r⟩
theorem own_A.new {k : ClassId} {n : Int32} (A : Arr Z h a (newA k ty n) ty) : own_A Z h a ty (List.replicate n.toNatClampNeg (defaultValue ty)) := ⟨_, A, by simp [newA]⟩
theorem own_A.len (X : Stand p l e R s m args below meth c T locs cells slots) (hx : p.tables.exec = Jvm.exec) (hZ : Z.Warmed39 s.vm) (eT : T.heap = h) (F : own_A Z h a ty vs)
    {g : JFrame} (hg : g.method = m) {rest : List Value} (hs : g.stack = .ref a :: rest) (hd : decode c.code g.pc = .ok (.arraylength, 1)) (target : State)
    (hr : Steps p.tables e below (T.setTop { g with pc := g.pc + 1, stack := .int vs.length.toInt32 :: rest }) target) : Steps p.tables e below (T.setTop g) target := by
  obtain ⟨cl, A, rfl⟩ := F
  refine X.arraylength hx (cell := cl) (by rw [eT]; exact A.1) (State.isArrayOf_alike hZ.alike A.2.1) hg hs hd _ ?_
  rw [Array.length_toList] at hr; exact hr
theorem own_A.inb {cl : Cell} {j : Int32} (hj : ¬ j < 0) (hv : cl.slots.toList[j.toNatClampNeg]? = some v) : ¬ (j < 0 ∨ cl.slots.size ≤ j.toNatClampNeg) := by
  rintro (q | q)
  · exact hj q
  · rw [List.getElem?_eq_none (by rw [Array.length_toList]; exact q)] at hv; cases hv
theorem own_A.dld (X : Stand p l e R s m args below meth c T locs cells slots) (hx : p.tables.exec = Jvm.exec) (hZ : Z.Warmed39 s.vm) (eT : T.heap = h) (F : own_A Z h a .double vs) {j : Int32} (hj : ¬ j < 0) (hv : vs[j.toNatClampNeg]? = some v)
    {g : JFrame} (hg : g.method = m) {rest : List Value} (hs : g.stack = .int j :: .ref a :: rest) (hd : decode c.code g.pc = .ok (.daload, 1)) (target : State)
    (hr : Steps p.tables e below (T.setTop { g with pc := g.pc + 1, stack := v :: rest }) target) : Steps p.tables e below (T.setTop g) target := by
  obtain ⟨cl, A, rfl⟩ := F
  exact X.daload hx (by rw [eT]; exact A.1) (State.isArrayOf_alike hZ.alike A.2.1) A.2.2 (own_A.inb hj hv) (by rw [← Array.getElem?_toList]; exact hv) hg hs hd _ hr
theorem own_A.ild (X : Stand p l e R s m args below meth c T locs cells slots) (hx : p.tables.exec = Jvm.exec) (hZ : Z.Warmed39 s.vm) (eT : T.heap = h) (F : own_A Z h a .int vs) {j : Int32} (hj : ¬ j < 0) (hv : vs[j.toNatClampNeg]? = some v)
    {g : JFrame} (hg : g.method = m) {rest : List Value} (hs : g.stack = .int j :: .ref a :: rest) (hd : decode c.code g.pc = .ok (.iaload, 1)) (target : State)
    (hr : Steps p.tables e below (T.setTop { g with pc := g.pc + 1, stack := v :: rest }) target) : Steps p.tables e below (T.setTop g) target := by
  obtain ⟨cl, A, rfl⟩ := F
  exact X.iaload hx (by rw [eT]; exact A.1) (State.isArrayOf_alike hZ.alike A.2.1) A.2.2 (own_A.inb hj hv) (by rw [← Array.getElem?_toList]; exact hv) hg hs hd _ hr
theorem own_A.lld (X : Stand p l e R s m args below meth c T locs cells slots) (hx : p.tables.exec = Jvm.exec) (hZ : Z.Warmed39 s.vm) (eT : T.heap = h) (F : own_A Z h a .long vs) {j : Int32} (hj : ¬ j < 0) (hv : vs[j.toNatClampNeg]? = some v)
    {g : JFrame} (hg : g.method = m) {rest : List Value} (hs : g.stack = .int j :: .ref a :: rest) (hd : decode c.code g.pc = .ok (.laload, 1)) (target : State)
    (hr : Steps p.tables e below (T.setTop { g with pc := g.pc + 1, stack := v :: rest }) target) : Steps p.tables e below (T.setTop g) target := by
  obtain ⟨cl, A, rfl⟩ := F
  exact X.laload hx (by rw [eT]; exact A.1) (State.isArrayOf_alike hZ.alike A.2.1) A.2.2 (own_A.inb hj hv) (by rw [← Array.getElem?_toList]; exact hv) hg hs hd _ hr
theorem own_A.same {cl : Cell} (A : Arr Z h a cl ty) (W : Wr h h' a sl v) : own_A Z h' a ty (cl.slots.toList.set sl v) := ⟨_, A.same W, by simp [Cell.setSlot]⟩
theorem own_A.dst (X : Stand p l e R s m args below meth c T locs cells slots) (hx : p.tables.exec = Jvm.exec) (hZ : Z.Warmed39 s.vm) (eT : T.heap = h) (F : own_A Z h a .double vs) {j : Int32} {x : UInt64} (hj : ¬ j < 0) {o : Value} (hv : vs[j.toNatClampNeg]? = some o)
    {g : JFrame} (hg : g.method = m) {rest : List Value} (hs : g.stack = .double x :: .int j :: .ref a :: rest) (hd : decode c.code g.pc = .ok (.dastore, 1)) :
    ∃ T' h', Stand p l e R s m args below meth c T' (locs ++ [⟨a, j.toNatClampNeg⟩]) cells slots ∧ T'.heap = h' ∧ Wr h h' a j.toNatClampNeg (.double x) ∧ own_A Z h' a .double (vs.set j.toNatClampNeg (.double x)) ∧
      ∀ target, Steps p.tables e below (T'.setTop { g with pc := g.pc + 1, stack := rest }) target → Steps p.tables e below (T.setTop g) target := by
  obtain ⟨cl, A, rfl⟩ := F
  obtain ⟨T', h', X', e', W, st⟩ := stD X hx hZ eT A (own_A.inb hj hv) hg hs hd
  exact ⟨T', h', X', e', W, own_A.same A W, st⟩
theorem own_A.ist (X : Stand p l e R s m args below meth c T locs cells slots) (hx : p.tables.exec = Jvm.exec) (hZ : Z.Warmed39 s.vm) (eT : T.heap = h) (F : own_A Z h a .int vs) {j : Int32} {x : Int32} (hj : ¬ j < 0) {o : Value} (hv : vs[j.toNatClampNeg]? = some o)
    {g : JFrame} (hg : g.method = m) {rest : List Value} (hs : g.stack = .int x :: .int j :: .ref a :: rest) (hd : decode c.code g.pc = .ok (.iastore, 1)) :
    ∃ T' h', Stand p l e R s m args below meth c T' (locs ++ [⟨a, j.toNatClampNeg⟩]) cells slots ∧ T'.heap = h' ∧ Wr h h' a j.toNatClampNeg (.int x) ∧ own_A Z h' a .int (vs.set j.toNatClampNeg (.int x)) ∧
      ∀ target, Steps p.tables e below (T'.setTop { g with pc := g.pc + 1, stack := rest }) target → Steps p.tables e below (T.setTop g) target := by
  obtain ⟨cl, A, rfl⟩ := F
  obtain ⟨T', h', X', e', W, st⟩ := stI X hx hZ eT A (own_A.inb hj hv) hg hs hd
  exact ⟨T', h', X', e', W, own_A.same A W, st⟩
theorem own_A.lst (X : Stand p l e R s m args below meth c T locs cells slots) (hx : p.tables.exec = Jvm.exec) (hZ : Z.Warmed39 s.vm) (eT : T.heap = h) (F : own_A Z h a .long vs) {j : Int32} {x : Int64} (hj : ¬ j < 0) {o : Value} (hv : vs[j.toNatClampNeg]? = some o)
    {g : JFrame} (hg : g.method = m) {rest : List Value} (hs : g.stack = .long x :: .int j :: .ref a :: rest) (hd : decode c.code g.pc = .ok (.lastore, 1)) :
    ∃ T' h', Stand p l e R s m args below meth c T' (locs ++ [⟨a, j.toNatClampNeg⟩]) cells slots ∧ T'.heap = h' ∧ Wr h h' a j.toNatClampNeg (.long x) ∧ own_A Z h' a .long (vs.set j.toNatClampNeg (.long x)) ∧
      ∀ target, Steps p.tables e below (T'.setTop { g with pc := g.pc + 1, stack := rest }) target → Steps p.tables e below (T.setTop g) target := by
  obtain ⟨cl, A, rfl⟩ := F
  obtain ⟨T', h', X', e', W, st⟩ := stJ X hx hZ eT A (own_A.inb hj hv) hg hs hd
  exact ⟨T', h', X', e', W, own_A.same A W, st⟩
end OwnArr
section OwnCopy
variable {p : Program} {l : Launch} {e : Env} {R : Room} {s : State} {m : MethodId} {args : Array Value} {below : List Frame} {meth : Method} {c : Code} {T : State} {locs : List Loc} {cells slots : Nat} {Z : State} {h h' : Heap} {a b : Addr} {ty : FieldType} {vs vd : List Value}
theorem own_A.arv (F : own_A Z h a ty vs) (n : Int32) (hn : n.toNatClampNeg = vs.length) (h0 : ¬ n < 0) (d : Value) (hf : ∀ v ∈ vs, fits ty v = true) : ∃ k, Arv Z h a k ty n vs d := by
  obtain ⟨cl, A, rfl⟩ := F
  have hs : cl.slots.size = n.toNatClampNeg := by rw [hn, Array.length_toList]
  refine ⟨cl.cls, cl, A, rfl, hs, h0, fun i hi => ?_, fun i hi => ?_⟩
  · rw [List.getD_eq_getElem?_getD, Array.getElem?_toList, Array.getElem?_eq_getElem hi]; rfl
  · rw [List.getD_eq_getElem?_getD, Array.getElem?_toList, Array.getElem?_eq_getElem hi]
    exact hf _ (Array.mem_toList_iff.mpr (Array.getElem_mem hi))
theorem own_A.of_arv {k : ClassId} {n : Int32} {d : Value} (F : Arv Z h a k ty n vs d) (hn : n.toNatClampNeg = vs.length) : own_A Z h a ty vs := by
  obtain ⟨cl, A, -, hs, -, H, -⟩ := F
  refine ⟨cl, A, ?_⟩
  apply List.ext_getElem?
  intro i
  by_cases hi : i < cl.slots.size
  · rw [Array.getElem?_toList, H i hi, List.getD_eq_getElem?_getD, List.getElem?_eq_getElem (by omega)]; rfl
  · rw [Array.getElem?_toList, Array.getElem?_eq_none (by omega), List.getElem?_eq_none (by omega)]
theorem own_A.copy (X : Stand p l e R s m args below meth c T locs cells slots) (hx : p.tables.exec = Jvm.exec) (hZ : Z.Warmed39 s.vm) {a0 : Array Value} {own : String} {index : Nat} (hown : s.vm.findClass own = some m.cls)
    (w1 : (Jvm.Cond.methodLink own index Jvm.Stand.acN).before a0 Z = true) (w2 : (Jvm.Cond.native Jvm.Stand.acN).before a0 Z = true) (w3 : (Jvm.Cond.static Jvm.Stand.acN).before a0 Z = true) (w4 : (Jvm.Cond.initialized "java/lang/System").before a0 Z = true) (eT : T.heap = h)
    (A : own_A Z h a ty vs) (B : own_A Z h b ty vd) (hty : refKind ty = false) {na nb nn : Int32} (ha : na.toNatClampNeg = vs.length) (hb : nb.toNatClampNeg = vd.length) (ga : ¬ na < 0) (gb : ¬ nb < 0) (gn : ¬ nn < 0) (la : nn.toNatClampNeg ≤ vs.length) (lb : nn.toNatClampNeg ≤ vd.length)
    (fa : ∀ v ∈ vs, fits ty v = true) (fb : ∀ v ∈ vd, fits ty v = true) {n0 : Nat} (N : Fr n0 locs) (ge : n0 ≤ b)
    {g : JFrame} (hg : g.method = m) (hsize : g.locals.size = c.maxLocals) {rest : List Value} (hs : g.stack = .int nn :: .int 0 :: .ref b :: .int 0 :: .ref a :: rest) (hd : decode c.code g.pc = .ok (.invokestatic index, 3))
    (hf : 1 ≤ R.frames) {W : Nat} (hW : 2 * g.monitorRoom + (rest.map fun v => v.category).sum ≤ W) (hlo : W + (nativeFrameWords "java/lang/System" "arraycopy" 5 + 11) ≤ R.locals) :
    ∃ T' h' L, Stand p l e R s m args below meth c T' L cells slots ∧ T'.heap = h' ∧ Fr n0 L ∧ Keep h h' [b] ∧ own_A Z h' b ty (vs.take nn.toNatClampNeg ++ vd.drop nn.toNatClampNeg) ∧
      ∀ target, Steps p.tables e below (T'.setTop { g with pc := g.pc + 3, stack := rest }) target → Steps p.tables e below (T.setTop g) target := by
  obtain ⟨ka, A'⟩ := A.arv na ha ga (.int 0) fa
  obtain ⟨kb, B'⟩ := B.arv nb hb gb (.int 0) fb
  obtain ⟨T', h', L, X', e', N', K, Q, st⟩ := cpA X hx hZ hown w1 w2 w3 w4 eT (sp := 0) (dp := 0) (nn := nn) (us := vs.take nn.toNatClampNeg) A' B' (Or.inl ⟨rfl, hty⟩) (by decide) (by decide) gn (by show 0 + _ ≤ _; omega) (by show 0 + _ ≤ _; omega) (by
      apply List.ext_getElem?
      intro i
      show (vs.take nn.toNatClampNeg)[i]? = ((List.range nn.toNatClampNeg).map fun i => vs.getD (0 + i) (.int 0))[i]?
      by_cases hi : i < nn.toNatClampNeg
      · rw [List.getElem?_take_of_lt hi, List.getElem?_map, List.getElem?_range hi]
        show _ = some (vs.getD (0 + i) (.int 0))
        rw [Nat.zero_add, List.getD_eq_getElem?_getD, List.getElem?_eq_getElem (by omega)]; rfl
      · rw [List.getElem?_eq_none (by rw [List.length_take]; omega), List.getElem?_eq_none (by rw [List.length_map, List.length_range]; omega)]) (by show 0 + _ ≤ _; omega) N ge hg hsize hs hd hf hW hlo
  refine ⟨T', h', L, X', e', N', K, ?_, st⟩
  refine own_A.of_arv (by simpa using Q) ?_
  rw [List.length_append, List.length_take, List.length_drop, hb]; omega
end OwnCopy
section OwnChr
variable {p : Program} {l : Launch} {e : Env} {R : Room} {s : State} {m : MethodId} {args : Array Value} {below : List Frame} {meth : Method} {c : Code} {T : State} {locs : List Loc} {cells slots : Nat} {Z : State} {h h' : Heap} {a b : Addr} {ty : FieldType} {vs : List Value} {sl : Nat} {v : Value} {ws : List Addr}
theorem own_A.cst (X : Stand p l e R s m args below meth c T locs cells slots) (hx : p.tables.exec = Jvm.exec) (hZ : Z.Warmed39 s.vm) (eT : T.heap = h) (F : own_A Z h a .char vs) {j : Int32} {x : Int32} (hj : ¬ j < 0) {o : Value} (hv : vs[j.toNatClampNeg]? = some o)
    {g : JFrame} (hg : g.method = m) {rest : List Value} (hs : g.stack = .int x :: .int j :: .ref a :: rest) (hd : decode c.code g.pc = .ok (.castore, 1)) :
    ∃ T' h', Stand p l e R s m args below meth c T' (locs ++ [⟨a, j.toNatClampNeg⟩]) cells slots ∧ T'.heap = h' ∧ Wr h h' a j.toNatClampNeg (.int (nar .char x)) ∧ own_A Z h' a .char (vs.set j.toNatClampNeg (.int (nar .char x))) ∧
      ∀ target, Steps p.tables e below (T'.setTop { g with pc := g.pc + 1, stack := rest }) target → Steps p.tables e below (T.setTop g) target := by
  obtain ⟨cl, A, rfl⟩ := F
  obtain ⟨T', h', X', e', W, st⟩ := stC X hx hZ eT A (own_A.inb hj hv) hg hs hd
  exact ⟨T', h', X', e', W, own_A.same A W, st⟩
theorem own_A.bst (X : Stand p l e R s m args below meth c T locs cells slots) (hx : p.tables.exec = Jvm.exec) (hZ : Z.Warmed39 s.vm) (eT : T.heap = h) (F : own_A Z h a .byte vs) {j : Int32} {x : Int32} (hj : ¬ j < 0) {o : Value} (hv : vs[j.toNatClampNeg]? = some o)
    {g : JFrame} (hg : g.method = m) {rest : List Value} (hs : g.stack = .int x :: .int j :: .ref a :: rest) (hd : decode c.code g.pc = .ok (.bastore, 1)) :
    ∃ T' h', Stand p l e R s m args below meth c T' (locs ++ [⟨a, j.toNatClampNeg⟩]) cells slots ∧ T'.heap = h' ∧ Wr h h' a j.toNatClampNeg (.int (nar .byte x)) ∧ own_A Z h' a .byte (vs.set j.toNatClampNeg (.int (nar .byte x))) ∧
      ∀ target, Steps p.tables e below (T'.setTop { g with pc := g.pc + 1, stack := rest }) target → Steps p.tables e below (T.setTop g) target := by
  obtain ⟨cl, A, rfl⟩ := F
  obtain ⟨T', h', X', e', W, st⟩ := stB X hx hZ eT A (own_A.inb hj hv) hg hs hd
  exact ⟨T', h', X', e', W, own_A.same A W, st⟩
end OwnChr
/-! how far the heap had come when the intern table last turned -/
abbrev own_Le (k : Nat) (h : Heap) : Prop := k ≤ h.size
theorem own_Le.ext {k : Nat} {h h' : Heap} (F : own_Le k h) (E : Ext h h') : own_Le k h' := Nat.le_trans F E.1
theorem own_Le.wr {k : Nat} {h h' : Heap} {a : Addr} {sl : Nat} {v : Value} (F : own_Le k h) (W : Wr h h' a sl v) : own_Le k h' := Nat.le_trans F (Keep.of_wr W).1
theorem own_Le.keep {k : Nat} {h h' : Heap} {ws : List Addr} (F : own_Le k h) (K : Keep h h' ws) : own_Le k h' := Nat.le_trans F K.1
theorem own_and255 (x : Int32) : ¬ x &&& 255 < 0 ∧ ¬ (255 : Int32) < x &&& 255 := by
  have e := Jvm.Kit.i32_mask x 255 (k := 8) (by decide) (by decide)
  constructor
  · rw [Int32.lt_iff_toInt_lt, e]; show ¬ _ < (0 : Int); omega
  · rw [Int32.lt_iff_toInt_lt, e]; show ¬ (255 : Int) < _; omega
theorem own_lat (x : Int32) : ¬ nar .char ((x &&& 255).toUInt32.toUInt16.toUInt32.toInt32) < 0 ∧ ¬ (255 : Int32) < nar .char ((x &&& 255).toUInt32.toUInt16.toUInt32.toInt32) := by
  rw [show nar .char ((x &&& (255 : Int32)).toUInt32.toUInt16.toUInt32.toInt32) = x &&& 255 from by simp only [nar, i2c_mask]]; exact own_and255 x
theorem own_n0 : NoNaN64 FP.dconst0 := own_nn own_d0
theorem own_n1 : NoNaN64 FP.dconst1 := own_nn own_d1
theorem own_01 : own_z FP.dconst0 ≤ own_z FP.dconst1 := by rw [own_zi own_d0, own_zi own_d1]; have := own_one; omega
theorem own_k8 : FP.Core.DInt 8 (4620693217682128896 : UInt64) := by
  have h := FP.Core.i2d_int 8
  rw [show FP.Core.i2d 8 = (4620693217682128896 : UInt64) by decide +kernel] at h; exact h
theorem own_f8 : Fin64 (4620693217682128896 : UInt64) := own_fini own_k8
theorem own_z8ne : own_z (4620693217682128896 : UInt64) ≠ 0 := by rw [own_zi own_k8]; have := own_one; omega
theorem own_o8 : (FP.Core.one64 : Int) = 8 * ((2 ^ 1071 : Nat) : Int) := by rw [FP.Core.one64]; decide +kernel
theorem own_z8 : own_z (4620693217682128896 : UInt64) = 64 * ((2 ^ 1071 : Nat) : Int) := by rw [own_zi own_k8, own_o8, ← Int.mul_assoc]; rfl
theorem own_k7 (p : Int32) : 1 ≤ ((p &&& (7 : Int32)) + (1 : Int32)).toInt ∧ ((p &&& (7 : Int32)) + (1 : Int32)).toInt ≤ 8 := by
  have h := Jvm.Kit.i32_mask p 7 (k := 3) (by decide) (by decide)
  have h2 : ((p &&& (7 : Int32)) + (1 : Int32)).toInt = (p &&& (7 : Int32)).toInt + 1 := Jvm.Kit.i32_add (q := 1) (by rw [h]; show _ ≤ _ + (1 : Int); omega) (by rw [h]; show _ + (1 : Int) < _; omega)
  omega
theorem own_53n {i : Int} (h1 : -9007199254740992 < i) (h2 : i < 9007199254740992) : i.natAbs < 2 ^ 53 := by
  have e : (2 : Nat) ^ 53 = 9007199254740992 := by decide
  omega
/-- an eighth of a whole number -/
theorem own_eighth {x : UInt64} {i : Int} (hx : FP.Core.DInt i x) (h1 : -9007199254740992 < i) (h2 : i < 9007199254740992) :
    own_z (FP.ddiv x (4620693217682128896 : UInt64)) = i * ((2 ^ 1071 : Nat) : Int) ∧ Fin64 (FP.ddiv x (4620693217682128896 : UInt64)) := by
  refine own_divI_exact (own_fini hx) own_f8 own_z8ne i 1071 (own_53n h1 h2) (by decide) ?_
  rw [own_zi hx, own_z8, own_o8]
  generalize ((2 ^ 1071 : Nat) : Int) = U
  rw [show (64 : Int) = 8 * 8 from rfl]; simp only [Int.mul_assoc, Int.mul_comm, Int.mul_left_comm]
theorem own_shn (p : Int32) : NoNaN64 (FP.ddiv (FP.i2d ((p &&& (7 : Int32)) + (1 : Int32))) (4620693217682128896 : UInt64)) := own_div_nn (Fl.i2d_fin _) own_f8 own_z8ne
section Sh
variable {p : Int32} {sh : UInt64}
theorem own_shz (hsh : FP.ddiv (FP.i2d ((p &&& (7 : Int32)) + (1 : Int32))) (4620693217682128896 : UInt64) = sh) : own_z sh = ((p &&& (7 : Int32)) + (1 : Int32)).toInt * ((2 ^ 1071 : Nat) : Int) ∧ Fin64 sh := by
  have b := own_k7 p
  have h := own_eighth (FP.Core.i2d_int ((p &&& (7 : Int32)) + (1 : Int32))) (by omega) (by omega)
  rw [← hsh]; exact h
theorem own_shf (hsh : FP.ddiv (FP.i2d ((p &&& (7 : Int32)) + (1 : Int32))) (4620693217682128896 : UInt64) = sh) : Fin64 sh := (own_shz hsh).2
theorem own_shp (hsh : FP.ddiv (FP.i2d ((p &&& (7 : Int32)) + (1 : Int32))) (4620693217682128896 : UInt64) = sh) : own_z FP.dconst0 < own_z sh := by
  rw [own_zi own_d0, (own_shz hsh).1, Int.zero_mul]
  have b := own_k7 p
  have := own_one; have o := own_o8
  exact Int.mul_pos (by omega) (by omega)
theorem own_sh0 (hsh : FP.ddiv (FP.i2d ((p &&& (7 : Int32)) + (1 : Int32))) (4620693217682128896 : UInt64) = sh) : ¬ own_z sh < own_z FP.dconst0 ∧ ¬ own_z FP.dconst1 < own_z sh := by
  refine ⟨Int.not_lt.mpr (Int.le_of_lt (own_shp hsh)), Int.not_lt.mpr ?_⟩
  rw [own_zi own_d1, (own_shz hsh).1, Int.one_mul, own_o8]
  have b := own_k7 p
  have := own_one; have o := own_o8
  exact Int.mul_le_mul_of_nonneg_right b.2 (by omega)
end Sh
theorem own_exn2 (x : Int64) : NoNaN64 (FP.ddiv (FP.l2d x) (4620693217682128896 : UInt64)) := own_div_nn (Fl.l2d_fin _) own_f8 own_z8ne
theorem own_ek (e k : Int32) (h1 : 1 ≤ k.toInt) (h2 : k.toInt ≤ 8) : (e.toInt64 * k.toInt64).toInt = e.toInt * k.toInt ∧ -17179869184 ≤ e.toInt * k.toInt ∧ e.toInt * k.toInt ≤ 17179869184 := by
  have a := e.toInt_lt; have b := e.le_toInt
  have u1 : e.toInt * k.toInt ≤ 17179869184 := by
    rcases Int.le_total 0 e.toInt with q | q
    · have := Int.mul_le_mul (show e.toInt ≤ 2147483648 by omega) h2 (by omega) (by omega); omega
    · have := Int.mul_nonneg (show 0 ≤ -e.toInt by omega) (show 0 ≤ k.toInt by omega); rw [Int.neg_mul] at this; omega
  have u2 : -17179869184 ≤ e.toInt * k.toInt := by
    rcases Int.le_total 0 e.toInt with q | q
    · have := Int.mul_nonneg q (show 0 ≤ k.toInt by omega); omega
    · have := Int.mul_le_mul (show -e.toInt ≤ 2147483648 by omega) h2 (by omega) (by omega); rw [Int.neg_mul] at this; omega
  refine ⟨?_, u2, u1⟩
  rw [Jvm.Kit.i64_mul (by rw [Jvm.Kit.i64_of_i32, Jvm.Kit.i64_of_i32]; omega) (by rw [Jvm.Kit.i64_of_i32, Jvm.Kit.i64_of_i32]; omega), Jvm.Kit.i64_of_i32, Jvm.Kit.i64_of_i32]
theorem own_fin405 {p2 p3 : Int32} {sh ex : UInt64} (hsh : FP.ddiv (FP.i2d ((p2 &&& (7 : Int32)) + (1 : Int32))) (4620693217682128896 : UInt64) = sh)
    (hex : FP.ddiv (FP.l2d (p3.toInt64 * ((p2 &&& (7 : Int32)) + (1 : Int32)).toInt64)) (4620693217682128896 : UInt64) = ex) : cmpValue (FP.dcmp (FP.dmul sh (FP.i2d p3)) ex) .l = 0 := by
  have b := own_k7 p2
  have hs := own_shz hsh
  obtain ⟨e1, e2, e3⟩ := own_ek p3 ((p2 &&& (7 : Int32)) + (1 : Int32)) b.1 b.2
  have h53 : (p3.toInt * ((p2 &&& (7 : Int32)) + (1 : Int32)).toInt).natAbs ≤ 2 ^ 53 := Nat.le_of_lt (own_53n (by omega) (by omega))
  have hd := own_dl (p3.toInt64 * ((p2 &&& (7 : Int32)) + (1 : Int32)).toInt64) e1 h53
  have hx := own_eighth hd (by omega) (by omega)
  rw [hex] at hx
  have hm := own_mul_exact hs.2 (Fl.i2d_fin p3) (p3.toInt * ((p2 &&& (7 : Int32)) + (1 : Int32)).toInt) 1071 (own_53n (by omega) (by omega)) (by decide) (by
    rw [hs.1, show own_z (FP.i2d p3) = p3.toInt * (FP.Core.one64 : Int) from own_zi (FP.Core.i2d_int p3)]
    generalize ((2 ^ 1071 : Nat) : Int) = U
    simp only [Int.mul_assoc, Int.mul_comm, Int.mul_left_comm])
  exact own_eqz .l hm.2.noNaN hx.2.noNaN (hm.1.trans hx.1.symm)
theorem own_amf {p : Int64} {am : UInt64} (h : FP.l2d p = am) : Fin64 am := h ▸ Fl.l2d_fin p
theorem own_am0 {p : Int64} {am : UInt64} (h : FP.l2d (p &&& (9223372036854775807 : Int64)) = am) : ¬ own_z am < own_z FP.dconst0 := by
  have hm := Jvm.Kit.i64_mask p 9223372036854775807 (k := 63) (by decide) (by decide)
  have h0 : 0 ≤ (p &&& (9223372036854775807 : Int64)).toInt := by rw [hm]; exact Int.emod_nonneg _ (by decide)
  refine Int.not_lt.mpr ?_
  rw [← h]
  refine FP.Core.l2d_zval_ge (V := FP.dconst0) (Fl.val64_no.mp own_n0) ?_
  show own_z FP.dconst0 ≤ _
  rw [own_zi own_d0, Int.zero_mul]
  exact Int.mul_nonneg h0 (Int.le_of_lt own_one)

def QrmR (Z : State) (a : Addr) (h0 : Heap) (n0 : Nat) (vQ : Option Value) (hQ : Heap) (LQ : List Loc) : Prop := vQ = none ∧ Fr n0 LQ ∧ hQ = h0
theorem ef_rmR (m : MethodId) (a : Addr) : entryFrame m #[(.ref a)] 1 = mkF m 0 #[vr a] [] := by first | (simp [entryFrame, mkF, argsToLocals, Value.category]; done) | rfl
abbrev mn0 : MethodName := ⟨"java/lang/Record", "<init>", "()V"⟩
theorem pn_java_lang_Record : plainName "java/lang/Record" = true := by first | (simp [plainName, overriddenIn]; done) | decide +kernel
theorem d_jdk_30_method_1_code_0 : decode jdk_30_method_1_code 0 = .ok (.aload_n 0, 1) := by decide +kernel
theorem d_jdk_30_method_1_code_1 : decode jdk_30_method_1_code 1 = .ok (.invokespecial 1, 3) := by decide +kernel
def tw42 {Z : State} {a0 : Array Value} (hw : ∀ d ∈ tables_1, d.before a0 Z = true) := hw _ (List.mem_of_getElem? (i := 42) rfl)
def tw12 {Z : State} {a0 : Array Value} (hw : ∀ d ∈ tables_1, d.before a0 Z = true) := hw _ (List.mem_of_getElem? (i := 12) rfl)
def tw13 {Z : State} {a0 : Array Value} (hw : ∀ d ∈ tables_1, d.before a0 Z = true) := hw _ (List.mem_of_getElem? (i := 13) rfl)
theorem d_jdk_30_method_1_code_4 : decode jdk_30_method_1_code 4 = .ok (.return_, 1) := by decide +kernel
set_option maxRecDepth 65536 in
set_option maxHeartbeats 40000000 in
theorem rmR (l : Launch) (Z : State) (a0 : Array Value) (hw : ∀ d ∈ tables_1, d.before a0 Z = true) (ws : List Jvm.Cond) (a : Addr) (h0 : Heap) (n0 : Nat) (Z0 : n0 ≤ h0.size)  :
    MetFree l mn0 (head1 (Jvm.Cond.code mn0 jdk_30_method_1_code 1 none :: ws) ({ frames := 1, cells := 0, slots := 0, locals := 12 } : Room)) (fun aA U => aA = #[(.ref a)] ∧ Z.Warmed39 U.vm ∧ U.heap = h0) (fun _ _ _ _ _ => True) (fun _ U o U' => ∃ vR LR, o = .returned vR ∧ QrmR Z a h0 n0 vR U'.heap LR ∧ FrameEnd U o U' LR ({ frames := 1, cells := 0, slots := 0, locals := 12 } : Room).cells ({ frames := 1, cells := 0, slots := 0, locals := 12 } : Room).slots) := by
  refine MetFree.of_bodySF (plainFor_of_name pn_java_lang_Record) hisR ?_
  intro p e s m args below meth c s₁ Bd hml0 hPre hKk
  obtain ⟨rfl, hZ, hh⟩ := hPre
  have hx := Bd.exec
  have hby := Bd.bytes
  skip
  have hml : c.maxLocals = 1 := hml0
  have hown : s.vm.findClass "java/lang/Record" = some m.cls := findClass_of_methodNamed Bd.named
  have hnm := (name_of_methodNamed Bd.named Bd.method).1
  have X0 : Stand p l e ({ frames := 1, cells := 0, slots := 0, locals := 12 } : Room) s m #[(.ref a)] below meth c s₁ [] 0 0 := Stand.of_body Bd
  have e0 : s₁.heap = h0 := by rw [← hh, Bd.state]; rfl
  have N0 := Fr.nil n0
  obtain ⟨E0, hE0⟩ : ∃ zE : State, zE = s₁.setTop (entryFrame m #[(.ref a)] 1) := ⟨_, rfl⟩
  have k0 : own_G p e below E0 s₁ (mkF m 0 #[vr a] []) := fun tz kz => hE0 ▸ castTop (ef_rmR m a) kz
  have k1 : own_G p e below E0 s₁ (mkF m 1 #[vr a] [(.ref a)]) := by
    intro tQ kk
    refine k0 tQ ?_
    refine XS.aloadN X0.here hx rfl (hb hby d_jdk_30_method_1_code_0) rfl rfl ?_
    exact kk
  clear k0
  obtain ⟨T2, X3, e4, st5⟩ := initO X0 hx hZ hown (tw42 hw) (tw12 hw) (tw13 hw) e0 (g := (mkF m 1 #[vr a] [(.ref a)])) rfl (by rw [hml]; rfl) rfl (hb hby d_jdk_30_method_1_code_1) (by decide) (W := 0) (by show 2 * 0 + _ ≤ _; exact Nat.le_of_eq rfl) (by decide)
  have k6 : own_G p e below E0 T2 (mkF m 4 #[vr a] []) := fun tQ kk => k1 tQ (st5 _ kk)
  clear k1 st5
  obtain ⟨fs, hr, hrun, hended, hW, hsame⟩ := X3.leave (v := none) (fun _ => rfl)
  have hrun0 := k6 _ (X3.returnOut hx Bd.returns (hb hby d_jdk_30_method_1_code_4) hr)
  subst hE0
  refine ⟨_, _, hrun0, hrun, hended, _, _, rfl, ?_, ⟨_, rfl⟩, hW, hsame.mono (by decide) (by decide)⟩
  show QrmR Z a h0 n0 _ T2.heap _
  rw [e4]
  exact ⟨rfl, N0, rfl⟩
def QrmN (Z : State) (a : Addr) (b : Addr) (h0 : Heap) (n0 : Nat) (vQ : Option Value) (hQ : Heap) (LQ : List Loc) : Prop := vQ = some (.ref a) ∧ Fr n0 LQ ∧ hQ = h0
theorem ef_rmN (m : MethodId) (a : Addr) (b : Addr) : entryFrame m #[(.ref a), (.ref b)] 2 = mkF m 0 #[vr a, vr b] [] := by first | (simp [entryFrame, mkF, argsToLocals, Value.category]; done) | rfl
abbrev mn1 : MethodName := ⟨"java/util/Objects", "requireNonNull", "(Ljava/lang/Object;Ljava/lang/String;)Ljava/lang/Object;"⟩
theorem pn_java_util_Objects : plainName "java/util/Objects" = true := by first | (simp [plainName, overriddenIn]; done) | decide +kernel
theorem d_jdk_31_method_11_code_0 : decode jdk_31_method_11_code 0 = .ok (.aload_n 0, 1) := by decide +kernel
theorem d_jdk_31_method_11_code_1 : decode jdk_31_method_11_code 1 = .ok (.ifnonnull 12, 3) := by decide +kernel
theorem d_jdk_31_method_11_code_13 : decode jdk_31_method_11_code 13 = .ok (.aload_n 0, 1) := by decide +kernel
theorem d_jdk_31_method_11_code_14 : decode jdk_31_method_11_code 14 = .ok (.areturn, 1) := by decide +kernel
set_option maxRecDepth 65536 in
set_option maxHeartbeats 40000000 in
theorem rmN (l : Launch) (Z : State) (a0 : Array Value) (hw : ∀ d ∈ tables_1, d.before a0 Z = true) (ws : List Jvm.Cond) (a : Addr) (b : Addr) (h0 : Heap) (n0 : Nat) (Z0 : n0 ≤ h0.size)  :
    MetFree l mn1 (head1 (Jvm.Cond.code mn1 jdk_31_method_11_code 2 (some (.object "java/lang/Object")) :: ws) ({ frames := 0, cells := 0, slots := 0, locals := 0 } : Room)) (fun aA U => aA = #[(.ref a), (.ref b)] ∧ Z.Warmed39 U.vm ∧ U.heap = h0) (fun _ _ _ _ _ => True) (fun _ U o U' => ∃ vR LR, o = .returned vR ∧ QrmN Z a b h0 n0 vR U'.heap LR ∧ FrameEnd U o U' LR ({ frames := 0, cells := 0, slots := 0, locals := 0 } : Room).cells ({ frames := 0, cells := 0, slots := 0, locals := 0 } : Room).slots) := by
  refine MetFree.of_bodySF (plainFor_of_name pn_java_util_Objects) hisR ?_
  intro p e s m args below meth c s₁ Bd hml0 hPre hKk
  obtain ⟨rfl, hZ, hh⟩ := hPre
  have hx := Bd.exec
  have hby := Bd.bytes
  skip
  have hml : c.maxLocals = 2 := hml0
  have hown : s.vm.findClass "java/util/Objects" = some m.cls := findClass_of_methodNamed Bd.named
  have hnm := (name_of_methodNamed Bd.named Bd.method).1
  have X0 : Stand p l e ({ frames := 0, cells := 0, slots := 0, locals := 0 } : Room) s m #[(.ref a), (.ref b)] below meth c s₁ [] 0 0 := Stand.of_body Bd
  have e0 : s₁.heap = h0 := by rw [← hh, Bd.state]; rfl
  have N0 := Fr.nil n0
  obtain ⟨E0, hE0⟩ : ∃ zE : State, zE = s₁.setTop (entryFrame m #[(.ref a), (.ref b)] 2) := ⟨_, rfl⟩
  have k0 : own_G p e below E0 s₁ (mkF m 0 #[vr a, vr b] []) := fun tz kz => hE0 ▸ castTop (ef_rmN m a b) kz
  have k7 : own_G p e below E0 s₁ (mkF m 14 #[vr a, vr b] [(.ref a)]) := by
    intro tQ kk
    refine k0 tQ ?_
    refine XS.aloadN X0.here hx rfl (hb hby d_jdk_31_method_11_code_0) rfl rfl ?_
    refine XT.ifnonnullYes X0.here hx rfl (pc0 := 1) (pc' := 13) rfl (hb hby d_jdk_31_method_11_code_1) rfl (by decide) (by decide) ?_
    refine XS.aloadN X0.here hx rfl (hb hby d_jdk_31_method_11_code_13) rfl rfl ?_
    exact kk
  clear k0
  obtain ⟨fs, hr, hrun, hended, hW, hsame⟩ := X0.leave (v := some (.ref a)) (fun h => by rw [Bd.returns] at h; cases h)
  have hrun0 := k7 _ (retOut X0 hx Bd.returns (t := (.object "java/lang/Object")) rfl (Or.inr (Or.inr (Or.inr (Or.inr ⟨rfl, rfl, rfl⟩)))) (hb hby d_jdk_31_method_11_code_14) hr)
  subst hE0
  refine ⟨_, _, hrun0, hrun, hended, _, _, rfl, ?_, ⟨_, rfl⟩, hW, hsame.mono (by decide) (by decide)⟩
  show QrmN Z a b h0 n0 _ s₁.heap _
  rw [e0]
  exact ⟨rfl, N0, rfl⟩
abbrev fd2 (Z : State) (h : Heap) (a : Addr) (v : Value) : Prop := Fld Z h a "com/example/capwright/capwright/statement/OperatingStatement$Expense" "name" "Ljava/lang/String;" v
abbrev fd3 (Z : State) (h : Heap) (a : Addr) (v : Value) : Prop := Fld Z h a "com/example/capwright/capwright/statement/OperatingStatement$Expense" "amount" "D" v
abbrev fd4 (Z : State) (h : Heap) (a : Addr) (v : Value) : Prop := Fld Z h a "com/example/capwright/capwright/statement/OperatingStatement$Expense" "shareOfEgi" "D" v
def QrmI (Z : State) (a : Addr) (nm : Addr) (x : UInt64) (z : UInt64) (h0 : Heap) (n0 : Nat) (vQ : Option Value) (hQ : Heap) (LQ : List Loc) : Prop := vQ = none ∧ Fr n0 LQ ∧ Keep h0 hQ [a] ∧ (fd2 Z hQ a (.ref nm)) ∧ (fd3 Z hQ a (.double x)) ∧ (fd4 Z hQ a (.double z))
theorem ef_rmI (m : MethodId) (a : Addr) (nm : Addr) (x : UInt64) (z : UInt64) : entryFrame m #[(.ref a), (.ref nm), (.double x), (.double z)] 6 = mkF m 0 #[vr a, vr nm, vd x, ss, vd z, ss] [] := by first | (simp [entryFrame, mkF, argsToLocals, Value.category]; done) | rfl
abbrev xa5 (Z : State) (h : Heap) (a : Addr) : Prop := Exa Z h a "com/example/capwright/capwright/statement/OperatingStatement$Expense"
abbrev mn6 : MethodName := ⟨"com/example/capwright/capwright/statement/OperatingStatement$Expense", "<init>", "(Ljava/lang/String;DD)V"⟩
theorem pn_com_example_capwright_capwright_statement_OperatingStatement_Expense : plainName "com/example/capwright/capwright/statement/OperatingStatement$Expense" = true := by first | (simp [plainName, overriddenIn]; done) | decide +kernel
theorem d_prog_104_method_1_code_0 : decode prog_104_method_1_code 0 = .ok (.aload_n 0, 1) := by decide +kernel
theorem d_prog_104_method_1_code_1 : decode prog_104_method_1_code 1 = .ok (.invokespecial 1, 3) := by decide +kernel
def tw37 {Z : State} {a0 : Array Value} (hw : ∀ d ∈ tables_1, d.before a0 Z = true) := hw _ (List.mem_of_getElem? (i := 37) rfl)
def tw41 {Z : State} {a0 : Array Value} (hw : ∀ d ∈ tables_1, d.before a0 Z = true) := hw _ (List.mem_of_getElem? (i := 41) rfl)
def tw40 {Z : State} {a0 : Array Value} (hw : ∀ d ∈ tables_1, d.before a0 Z = true) := hw _ (List.mem_of_getElem? (i := 40) rfl)
theorem pd_7 : parseMethodDescriptor "()V" = some ⟨[], none⟩ := by decide +kernel
def tw38 {Z : State} {a0 : Array Value} (hw : ∀ d ∈ tables_1, d.before a0 Z = true) := hw _ (List.mem_of_getElem? (i := 38) rfl)
theorem d_prog_104_method_1_code_4 : decode prog_104_method_1_code 4 = .ok (.aload_n 1, 1) := by decide +kernel
theorem d_prog_104_method_1_code_5 : decode prog_104_method_1_code 5 = .ok (.ldc 7, 2) := by decide +kernel
def tw43 {Z : State} {a0 : Array Value} (hw : ∀ d ∈ tables_1, d.before a0 Z = true) := hw _ (List.mem_of_getElem? (i := 43) rfl)
theorem own_sA {Z : State} {a0 : Array Value} (hw : ∀ d ∈ tables_1, d.before a0 Z = true) : ∀ d ∈ Bundle.stringAtoms, d.before a0 Z = true := fun d hd => hw d ((by decide +kernel : ∀ d ∈ Bundle.stringAtoms, d ∈ tables_1) d hd)
theorem d_prog_104_method_1_code_7 : decode prog_104_method_1_code 7 = .ok (.invokestatic 9, 3) := by decide +kernel
def tw46 {Z : State} {a0 : Array Value} (hw : ∀ d ∈ tables_1, d.before a0 Z = true) := hw _ (List.mem_of_getElem? (i := 46) rfl)
def tw49 {Z : State} {a0 : Array Value} (hw : ∀ d ∈ tables_1, d.before a0 Z = true) := hw _ (List.mem_of_getElem? (i := 49) rfl)
def tw48 {Z : State} {a0 : Array Value} (hw : ∀ d ∈ tables_1, d.before a0 Z = true) := hw _ (List.mem_of_getElem? (i := 48) rfl)
theorem pd_8 : parseMethodDescriptor "(Ljava/lang/Object;Ljava/lang/String;)Ljava/lang/Object;" = some ⟨[(.object "java/lang/Object"), (.object "java/lang/String")], some (.object "java/lang/Object")⟩ := by decide +kernel
def tw47 {Z : State} {a0 : Array Value} (hw : ∀ d ∈ tables_1, d.before a0 Z = true) := hw _ (List.mem_of_getElem? (i := 47) rfl)
theorem d_prog_104_method_1_code_10 : decode prog_104_method_1_code 10 = .ok (.pop, 1) := by decide +kernel
theorem d_prog_104_method_1_code_11 : decode prog_104_method_1_code 11 = .ok (.dload_n 2, 1) := by decide +kernel
theorem d_prog_104_method_1_code_12 : decode prog_104_method_1_code 12 = .ok (.dconst 0, 1) := by decide +kernel
theorem d_prog_104_method_1_code_13 : decode prog_104_method_1_code 13 = .ok (.dcmp .l, 1) := by decide +kernel
theorem d_prog_104_method_1_code_14 : decode prog_104_method_1_code 14 = .ok (.ifCond .ge 17, 3) := by decide +kernel
theorem d_prog_104_method_1_code_31 : decode prog_104_method_1_code 31 = .ok (.dload 4, 2) := by decide +kernel
theorem d_prog_104_method_1_code_33 : decode prog_104_method_1_code 33 = .ok (.dconst 0, 1) := by decide +kernel
theorem d_prog_104_method_1_code_34 : decode prog_104_method_1_code 34 = .ok (.dcmp .l, 1) := by decide +kernel
theorem d_prog_104_method_1_code_35 : decode prog_104_method_1_code 35 = .ok (.ifCond .lt 10, 3) := by decide +kernel
theorem d_prog_104_method_1_code_38 : decode prog_104_method_1_code 38 = .ok (.dload 4, 2) := by decide +kernel
theorem d_prog_104_method_1_code_40 : decode prog_104_method_1_code 40 = .ok (.dconst 1, 1) := by decide +kernel
theorem d_prog_104_method_1_code_41 : decode prog_104_method_1_code 41 = .ok (.dcmp .g, 1) := by decide +kernel
theorem d_prog_104_method_1_code_42 : decode prog_104_method_1_code 42 = .ok (.ifCond .le 18, 3) := by decide +kernel
theorem d_prog_104_method_1_code_60 : decode prog_104_method_1_code 60 = .ok (.dload_n 2, 1) := by decide +kernel
theorem d_prog_104_method_1_code_61 : decode prog_104_method_1_code 61 = .ok (.dconst 0, 1) := by decide +kernel
theorem d_prog_104_method_1_code_62 : decode prog_104_method_1_code 62 = .ok (.dcmp .l, 1) := by decide +kernel
theorem d_prog_104_method_1_code_63 : decode prog_104_method_1_code 63 = .ok (.ifCond .le 26, 3) := by decide +kernel
theorem d_prog_104_method_1_code_66 : decode prog_104_method_1_code 66 = .ok (.dload 4, 2) := by decide +kernel
theorem d_prog_104_method_1_code_68 : decode prog_104_method_1_code 68 = .ok (.dconst 0, 1) := by decide +kernel
theorem d_prog_104_method_1_code_69 : decode prog_104_method_1_code 69 = .ok (.dcmp .l, 1) := by decide +kernel
theorem d_prog_104_method_1_code_70 : decode prog_104_method_1_code 70 = .ok (.ifCond .le 19, 3) := by decide +kernel
theorem d_prog_104_method_1_code_89 : decode prog_104_method_1_code 89 = .ok (.aload_n 0, 1) := by decide +kernel
theorem d_prog_104_method_1_code_90 : decode prog_104_method_1_code 90 = .ok (.aload_n 1, 1) := by decide +kernel
theorem d_prog_104_method_1_code_91 : decode prog_104_method_1_code 91 = .ok (.putfield 28, 3) := by decide +kernel
def tw50 {Z : State} {a0 : Array Value} (hw : ∀ d ∈ tables_1, d.before a0 Z = true) := hw _ (List.mem_of_getElem? (i := 50) rfl)
def tw32 {Z : State} {a0 : Array Value} (hw : ∀ d ∈ tables_1, d.before a0 Z = true) := hw _ (List.mem_of_getElem? (i := 32) rfl)
def tw51 {Z : State} {a0 : Array Value} (hw : ∀ d ∈ tables_1, d.before a0 Z = true) := hw _ (List.mem_of_getElem? (i := 51) rfl)
def tw53 {Z : State} {a0 : Array Value} (hw : ∀ d ∈ tables_1, d.before a0 Z = true) := hw _ (List.mem_of_getElem? (i := 53) rfl)
def tw55 {Z : State} {a0 : Array Value} (hw : ∀ d ∈ tables_1, d.before a0 Z = true) := hw _ (List.mem_of_getElem? (i := 55) rfl)
theorem d_prog_104_method_1_code_94 : decode prog_104_method_1_code 94 = .ok (.aload_n 0, 1) := by decide +kernel
theorem d_prog_104_method_1_code_95 : decode prog_104_method_1_code 95 = .ok (.dload_n 2, 1) := by decide +kernel
theorem d_prog_104_method_1_code_96 : decode prog_104_method_1_code 96 = .ok (.putfield 33, 3) := by decide +kernel
def tw52 {Z : State} {a0 : Array Value} (hw : ∀ d ∈ tables_1, d.before a0 Z = true) := hw _ (List.mem_of_getElem? (i := 52) rfl)
theorem d_prog_104_method_1_code_99 : decode prog_104_method_1_code 99 = .ok (.aload_n 0, 1) := by decide +kernel
theorem d_prog_104_method_1_code_100 : decode prog_104_method_1_code 100 = .ok (.dload 4, 2) := by decide +kernel
theorem d_prog_104_method_1_code_102 : decode prog_104_method_1_code 102 = .ok (.putfield 37, 3) := by decide +kernel
def tw54 {Z : State} {a0 : Array Value} (hw : ∀ d ∈ tables_1, d.before a0 Z = true) := hw _ (List.mem_of_getElem? (i := 54) rfl)
theorem d_prog_104_method_1_code_105 : decode prog_104_method_1_code 105 = .ok (.return_, 1) := by decide +kernel
set_option maxRecDepth 65536 in
set_option maxHeartbeats 40000000 in
theorem rmI (l : Launch) (Z : State) (a0 : Array Value) (hw : ∀ d ∈ tables_1, d.before a0 Z = true) (ws : List Jvm.Cond) (a : Addr) (nm : Addr) (x : UInt64) (z : UInt64) (h0 : Heap) (n0 : Nat) (Z0 : n0 ≤ h0.size) (E1 : xa5 Z h0 a) (F0 : fd2 Z h0 a .null) (F1 : fd3 Z h0 a (.double (0 : UInt64))) (F2 : fd4 Z h0 a (.double (0 : UInt64))) (ge_a : n0 ≤ a) (nx : NoNaN64 x) (nz : NoNaN64 z) (gx : ¬ own_z x < (own_z FP.dconst0)) (gz : ¬ own_z z < (own_z FP.dconst0)) (lz : ¬ (own_z FP.dconst1) < own_z z) (hxz : (own_z FP.dconst0) < own_z x → ¬ (own_z FP.dconst0) < own_z z) :
    MetFree l mn6 (head1 (Jvm.Cond.code mn6 prog_104_method_1_code 6 none :: ws) ({ frames := 2, cells := 2, slots := 20, locals := 26 } : Room)) (fun aA U => aA = #[(.ref a), (.ref nm), (.double x), (.double z)] ∧ Z.Warmed39 U.vm ∧ U.heap = h0) (fun _ _ _ _ _ => True) (fun _ U o U' => ∃ vR LR, o = .returned vR ∧ QrmI Z a nm x z h0 n0 vR U'.heap LR ∧ ReturnedEndW U o U' LR ({ frames := 2, cells := 2, slots := 20, locals := 26 } : Room).cells ({ frames := 2, cells := 2, slots := 20, locals := 26 } : Room).slots) := by
  refine MetFree.of_bodySF (plainFor_of_name pn_com_example_capwright_capwright_statement_OperatingStatement_Expense) hisR ?_
  intro p e s m args below meth c s₁ Bd hml0 hPre hKk
  obtain ⟨rfl, hZ, hh⟩ := hPre
  have hx := Bd.exec
  have hby := Bd.bytes
  skip
  have hml : c.maxLocals = 6 := hml0
  have hown : s.vm.findClass "com/example/capwright/capwright/statement/OperatingStatement$Expense" = some m.cls := findClass_of_methodNamed Bd.named
  have hnm := (name_of_methodNamed Bd.named Bd.method).1
  have X0 : Stand p l e ({ frames := 2, cells := 2, slots := 20, locals := 26 } : Room) (s.setVm s.vm) m #[(.ref a), (.ref nm), (.double x), (.double z)] below meth c s₁ [] 0 0 := Stand.of_body Bd
  have e0 : s₁.heap = h0 := by rw [← hh, Bd.state]; rfl
  have N0 := Fr.nil n0
  obtain ⟨E0, hE0⟩ : ∃ zE : State, zE = s₁.setTop (entryFrame m #[(.ref a), (.ref nm), (.double x), (.double z)] 6) := ⟨_, rfl⟩
  have k0 : own_G p e below E0 s₁ (mkF m 0 #[vr a, vr nm, vd x, ss, vd z, ss] []) := fun tz kz => hE0 ▸ castTop (ef_rmI m a nm x z) kz
  have S0 : s.Since s.vm 0 := (State.WarmedH.refl s).since 0
  have LE0 : own_Le 0 h0 := Nat.zero_le _
  have K0 : Keep h0 h0 [a] := Keep.refl _ _
  have k8 : own_G p e below E0 s₁ (mkF m 1 #[vr a, vr nm, vd x, ss, vd z, ss] [(.ref a)]) := by
    intro tQ kk
    refine k0 tQ ?_
    refine XS.aloadN X0.here hx rfl (hb hby d_prog_104_method_1_code_0) rfl rfl ?_
    exact kk
  clear k0
  obtain ⟨_, _, ⟨T9, L10, kc11, nc12⟩, -, X13, ⟨Lc14, hQ15, l16, y17, z18⟩, st19⟩ := X0.specialBack hx (y := mn0) rfl hown (mvT hZ (tw37 hw)) (mvT hZ (tw38 hw)) (mvT hZ (tw41 hw)) (by decide) (backOf (W := 0) (rmR l Z a0 hw [] a h0 n0 Z0 ) hZ (tw41 hw) (tw40 hw) (by decide) (by decide)) (g := (mkF m 1 #[vr a, vr nm, vd x, ss, vd z, ss] [(.ref a)])) rfl (by rw [hml]; rfl) (Steps.refl _) (a := a) (argsL := []) (rest := []) (lenOf pd_7 rfl) rfl (by show 2 * 0 + _ ≤ _; exact Nat.le_of_eq rfl) (hb hby d_prog_104_method_1_code_1) (fun _ _ => ⟨rfl, e0, (by decide : 0 + 0 ≤ _), (by decide : 0 + 0 ≤ _)⟩)
  dsimp only [Pt.U, Pt.locs, Pt.cells, Pt.slots] at X13 l16 y17 z18 st19 hQ15
  subst y17 z18
  obtain ⟨rfl, N20, e21⟩ := hQ15
  have N23 : Fr n0 L10 := by rw [l16]; exact Fr.app N0 N20
  clear l16 N20
  have k24 : own_G p e below E0 T9 (mkF m 4 #[vr a, vr nm, vd x, ss, vd z, ss] []) := fun tQ kk => k8 tQ (st19.trans kk)
  clear k8 st19
  have k25 : own_G p e below E0 T9 (mkF m 5 #[vr a, vr nm, vd x, ss, vd z, ss] [(.ref nm)]) := by
    intro tQ kk
    refine k24 tQ ?_
    refine XS.aloadN X13.here hx rfl (hb hby d_prog_104_method_1_code_4) rfl rfl ?_
    exact kk
  clear k24
  obtain ⟨a26, T27, h28, ks29, X30, e31, E32, S33, Kl34, hZ, hown, st35⟩ := ldcS X13 hx hZ hown (tw43 hw) (own_sA hw) e21 S0 LE0 (g := (mkF m 5 #[vr a, vr nm, vd x, ss, vd z, ss] [(.ref nm)])) rfl (hb hby d_prog_104_method_1_code_5) (n := 16) (by decide) (by decide) (by decide) (by decide)
  have Z36 : n0 ≤ h28.size := Nat.le_trans Z0 E32.1
  have F37 : xa5 Z h28 a := E1.ext E32
  clear E1
  have F38 : fd2 Z h28 a .null := F0.ext E32
  clear F0
  have F39 : fd3 Z h28 a (.double (0 : UInt64)) := F1.ext E32
  clear F1
  have F40 : fd4 Z h28 a (.double (0 : UInt64)) := F2.ext E32
  clear F2
  have K41 : Keep h0 h28 [a] := K0.ext E32
  have F42 : own_Le ks29 h28 := Kl34
  have k43 : own_G p e below E0 T27 (mkF m 7 #[vr a, vr nm, vd x, ss, vd z, ss] [(.ref a26), (.ref nm)]) := fun tQ kk => k25 tQ (st35 _ kk)
  clear k25 st35
  obtain ⟨_, _, ⟨T44, L45, kc46, nc47⟩, -, X48, ⟨Lc49, hQ50, l51, y52, z53⟩, st54⟩ := Jvm.LawKit.callS X30 hx (y := mn1) hown (mvT hZ (tw46 hw)) (mvT hZ (tw47 hw)) (mvT hZ (tw48 hw)) (mvT hZ (tw49 hw)) (by decide) (backOf (W := 0) (rmN l Z a0 hw [] nm a26 h28 n0 Z36 ) hZ (tw49 hw) (tw48 hw) (by decide) (by decide)) (g := (mkF m 7 #[vr a, vr nm, vd x, ss, vd z, ss] [(.ref a26), (.ref nm)])) rfl (by rw [hml]; rfl) (argsL := [(.ref nm), (.ref a26)]) (rest := []) (lenOf pd_8 rfl) rfl (by show 2 * 0 + _ ≤ _; exact Nat.le_of_eq rfl) (hb hby d_prog_104_method_1_code_7) (fun _ _ => ⟨rfl, e31, (by decide : 2 + 0 ≤ _), (by decide : 20 + 0 ≤ _)⟩)
  dsimp only [Pt.U, Pt.locs, Pt.cells, Pt.slots] at X48 l51 y52 z53 st54 hQ50
  subst y52 z53
  obtain ⟨rfl, N55, e56⟩ := hQ50
  have N58 : Fr n0 L45 := by rw [l51]; exact Fr.app N23 N55
  clear l51 N55
  have k59 : own_G p e below E0 T44 (mkF m 10 #[vr a, vr nm, vd x, ss, vd z, ss] [(.ref nm)]) := fun tQ kk => k43 tQ (st54 _ kk)
  clear k43 st54
  have k60 : own_G p e below E0 T44 (mkF m 63 #[vr a, vr nm, vd x, ss, vd z, ss] [(.int (own_c (own_z x) (own_z FP.dconst0)))]) := by
    intro tQ kk
    refine k59 tQ ?_
    refine XT.pop X48.here hx rfl (hb hby d_prog_104_method_1_code_10) rfl rfl ?_
    refine XS.dloadN X48.here hx rfl (hb hby d_prog_104_method_1_code_11) rfl ?_
    refine XS.dconst0 X48.here hx rfl (hb hby d_prog_104_method_1_code_12) rfl ?_
    refine XS.dcmpS (v := (own_c (own_z x) (own_z FP.dconst0))) X48.here hx rfl (hb hby d_prog_104_method_1_code_13) rfl (own_cE .l (own_cmpz nx own_n0)) ?_
    show Steps p.tables e below (T44.setTop (mkF m 14 #[vr a, vr nm, vd x, ss, vd z, ss] [(.int (own_c (own_z x) (own_z FP.dconst0)))])) tQ
    refine XS.ifYes X48.here hx rfl (pc0 := 14) (pc' := 31) rfl (hb hby d_prog_104_method_1_code_14) rfl (own_c_geY gx) (by decide) (by decide) ?_
    refine XS.dload X48.here hx rfl (hb hby d_prog_104_method_1_code_31) rfl ?_
    refine XS.dconst0 X48.here hx rfl (hb hby d_prog_104_method_1_code_33) rfl ?_
    refine XS.dcmpS (v := (own_c (own_z z) (own_z FP.dconst0))) X48.here hx rfl (hb hby d_prog_104_method_1_code_34) rfl (own_cE .l (own_cmpz nz own_n0)) ?_
    show Steps p.tables e below (T44.setTop (mkF m 35 #[vr a, vr nm, vd x, ss, vd z, ss] [(.int (own_c (own_z z) (own_z FP.dconst0)))])) tQ
    refine XS.ifNo X48.here hx rfl (hb hby d_prog_104_method_1_code_35) rfl (own_c_ltN gz) ?_
    refine XS.dload X48.here hx rfl (hb hby d_prog_104_method_1_code_38) rfl ?_
    refine XS.dconst1 X48.here hx rfl (hb hby d_prog_104_method_1_code_40) rfl ?_
    refine XS.dcmpS (v := (own_c (own_z z) (own_z FP.dconst1))) X48.here hx rfl (hb hby d_prog_104_method_1_code_41) rfl (own_cE .g (own_cmpz nz own_n1)) ?_
    show Steps p.tables e below (T44.setTop (mkF m 42 #[vr a, vr nm, vd x, ss, vd z, ss] [(.int (own_c (own_z z) (own_z FP.dconst1)))])) tQ
    refine XS.ifYes X48.here hx rfl (pc0 := 42) (pc' := 60) rfl (hb hby d_prog_104_method_1_code_42) rfl (own_c_leY lz) (by decide) (by decide) ?_
    refine XS.dloadN X48.here hx rfl (hb hby d_prog_104_method_1_code_60) rfl ?_
    refine XS.dconst0 X48.here hx rfl (hb hby d_prog_104_method_1_code_61) rfl ?_
    refine XS.dcmpS (v := (own_c (own_z x) (own_z FP.dconst0))) X48.here hx rfl (hb hby d_prog_104_method_1_code_62) rfl (own_cE .l (own_cmpz nx own_n0)) ?_
    exact kk
  clear k59
  by_cases cx : (own_z FP.dconst0) < (own_z x)
  · skip
    have k62 : own_G p e below E0 T44 (mkF m 91 #[vr a, vr nm, vd x, ss, vd z, ss] [(.ref nm), (.ref a)]) := by
      intro tQ kk
      refine k60 tQ ?_
      refine XS.ifNo X48.here hx rfl (hb hby d_prog_104_method_1_code_63) rfl (own_c_leN cx) ?_
      refine XS.dload X48.here hx rfl (hb hby d_prog_104_method_1_code_66) rfl ?_
      refine XS.dconst0 X48.here hx rfl (hb hby d_prog_104_method_1_code_68) rfl ?_
      refine XS.dcmpS (v := (own_c (own_z z) (own_z FP.dconst0))) X48.here hx rfl (hb hby d_prog_104_method_1_code_69) rfl (own_cE .l (own_cmpz nz own_n0)) ?_
      show Steps p.tables e below (T44.setTop (mkF m 70 #[vr a, vr nm, vd x, ss, vd z, ss] [(.int (own_c (own_z z) (own_z FP.dconst0)))])) tQ
      refine XS.ifYes X48.here hx rfl (pc0 := 70) (pc' := 89) rfl (hb hby d_prog_104_method_1_code_70) rfl (own_c_leY (hxz cx)) (by decide) (by decide) ?_
      refine XS.aloadN X48.here hx rfl (hb hby d_prog_104_method_1_code_89) rfl rfl ?_
      refine XS.aloadN X48.here hx rfl (hb hby d_prog_104_method_1_code_90) rfl rfl ?_
      exact kk
    clear k60
    obtain ⟨T63, h64, X65, e66, W67, st68⟩ := putF X48 hx hZ hown (host := "") (Or.inl (tw50 hw)) Via.refl e56 F38 F37 (Or.inr ⟨(tw51 hw), rfl, hnm⟩) (tw32 hw) (ty := (.object "java/lang/String")) (by decide) rfl rfl (g := (mkF m 91 #[vr a, vr nm, vd x, ss, vd z, ss] [(.ref nm), (.ref a)])) rfl rfl (hb hby d_prog_104_method_1_code_91)
    have N69 := Fr.snoc X65 N58 ge_a
    have k70 : own_G p e below E0 T63 (mkF m 94 #[vr a, vr nm, vd x, ss, vd z, ss] []) := fun tQ kk => k62 tQ (st68 _ kk)
    clear k62 st68
    have F71 : xa5 Z h64 a := F37.wr W67
    clear F37
    have F72 : fd2 Z h64 a (.ref nm) := F38.same W67
    clear F38
    have F73 : fd3 Z h64 a (.double (0 : UInt64)) := F39.other W67 (Or.inr (slot_ne (C := "com/example/capwright/capwright/statement/OperatingStatement$Expense") (Or.inr (tw53 hw)) (Or.inr (tw51 hw)) (by decide) (t := .double) (t' := (.object "java/lang/String")) (by decide) (by decide)))
    clear F39
    have F74 : fd4 Z h64 a (.double (0 : UInt64)) := F40.other W67 (Or.inr (slot_ne (C := "com/example/capwright/capwright/statement/OperatingStatement$Expense") (Or.inr (tw55 hw)) (Or.inr (tw51 hw)) (by decide) (t := .double) (t' := (.object "java/lang/String")) (by decide) (by decide)))
    clear F40
    have F75 : own_Le ks29 h64 := F42.wr W67
    clear F42
    have Z76 : n0 ≤ h64.size := by rw [W67.size]; exact Z36
    clear Z36
    have K77 : Keep h0 h64 [a] := K41.wr W67 (Or.inl (List.mem_of_getElem? (i := 0) rfl))
    clear K41
    have k78 : own_G p e below E0 T63 (mkF m 96 #[vr a, vr nm, vd x, ss, vd z, ss] [(.double x), (.ref a)]) := by
      intro tQ kk
      refine k70 tQ ?_
      refine XS.aloadN X65.here hx rfl (hb hby d_prog_104_method_1_code_94) rfl rfl ?_
      refine XS.dloadN X65.here hx rfl (hb hby d_prog_104_method_1_code_95) rfl ?_
      exact kk
    clear k70
    obtain ⟨T79, h80, X81, e82, W83, st84⟩ := putF X65 hx hZ hown (host := "") (Or.inl (tw52 hw)) Via.refl e66 F73 F71 (Or.inr ⟨(tw53 hw), rfl, hnm⟩) (tw32 hw) (ty := .double) (by decide) rfl rfl (g := (mkF m 96 #[vr a, vr nm, vd x, ss, vd z, ss] [(.double x), (.ref a)])) rfl rfl (hb hby d_prog_104_method_1_code_96)
    have N85 := Fr.snoc X81 N69 ge_a
    have k86 : own_G p e below E0 T79 (mkF m 99 #[vr a, vr nm, vd x, ss, vd z, ss] []) := fun tQ kk => k78 tQ (st84 _ kk)
    clear k78 st84
    have F87 : xa5 Z h80 a := F71.wr W83
    clear F71
    have F88 : fd2 Z h80 a (.ref nm) := F72.other W83 (Or.inr (slot_ne (C := "com/example/capwright/capwright/statement/OperatingStatement$Expense") (Or.inr (tw51 hw)) (Or.inr (tw53 hw)) (by decide) (t := (.object "java/lang/String")) (t' := .double) (by decide) (by decide)))
    clear F72
    have F89 : fd3 Z h80 a (.double x) := F73.same W83
    clear F73
    have F90 : fd4 Z h80 a (.double (0 : UInt64)) := F74.other W83 (Or.inr (slot_ne (C := "com/example/capwright/capwright/statement/OperatingStatement$Expense") (Or.inr (tw55 hw)) (Or.inr (tw53 hw)) (by decide) (t := .double) (t' := .double) (by decide) (by decide)))
    clear F74
    have F91 : own_Le ks29 h80 := F75.wr W83
    clear F75
    have Z92 : n0 ≤ h80.size := by rw [W83.size]; exact Z76
    clear Z76
    have K93 : Keep h0 h80 [a] := K77.wr W83 (Or.inl (List.mem_of_getElem? (i := 0) rfl))
    clear K77
    have k94 : own_G p e below E0 T79 (mkF m 102 #[vr a, vr nm, vd x, ss, vd z, ss] [(.double z), (.ref a)]) := by
      intro tQ kk
      refine k86 tQ ?_
      refine XS.aloadN X81.here hx rfl (hb hby d_prog_104_method_1_code_99) rfl rfl ?_
      refine XS.dload X81.here hx rfl (hb hby d_prog_104_method_1_code_100) rfl ?_
      exact kk
    clear k86
    obtain ⟨T95, h96, X97, e98, W99, st100⟩ := putF X81 hx hZ hown (host := "") (Or.inl (tw54 hw)) Via.refl e82 F90 F87 (Or.inr ⟨(tw55 hw), rfl, hnm⟩) (tw32 hw) (ty := .double) (by decide) rfl rfl (g := (mkF m 102 #[vr a, vr nm, vd x, ss, vd z, ss] [(.double z), (.ref a)])) rfl rfl (hb hby d_prog_104_method_1_code_102)
    have N101 := Fr.snoc X97 N85 ge_a
    have k102 : own_G p e below E0 T95 (mkF m 105 #[vr a, vr nm, vd x, ss, vd z, ss] []) := fun tQ kk => k94 tQ (st100 _ kk)
    clear k94 st100
    have F103 : xa5 Z h96 a := F87.wr W99
    clear F87
    have F104 : fd2 Z h96 a (.ref nm) := F88.other W99 (Or.inr (slot_ne (C := "com/example/capwright/capwright/statement/OperatingStatement$Expense") (Or.inr (tw51 hw)) (Or.inr (tw55 hw)) (by decide) (t := (.object "java/lang/String")) (t' := .double) (by decide) (by decide)))
    clear F88
    have F105 : fd3 Z h96 a (.double x) := F89.other W99 (Or.inr (slot_ne (C := "com/example/capwright/capwright/statement/OperatingStatement$Expense") (Or.inr (tw53 hw)) (Or.inr (tw55 hw)) (by decide) (t := .double) (t' := .double) (by decide) (by decide)))
    clear F89
    have F106 : fd4 Z h96 a (.double z) := F90.same W99
    clear F90
    have F107 : own_Le ks29 h96 := F91.wr W99
    clear F91
    have Z108 : n0 ≤ h96.size := by rw [W99.size]; exact Z92
    clear Z92
    have K109 : Keep h0 h96 [a] := K93.wr W99 (Or.inl (List.mem_of_getElem? (i := 0) rfl))
    clear K93
    obtain ⟨fs, hr, hrun, hended, hRW⟩ := X97.leaveW S33 (Nat.le_trans F107 (Nat.le_of_eq (congrArg Array.size e98.symm))) (v := none) (fun h => rfl)
    have hrun0 := k102 _ (X97.returnOut hx Bd.returns (hb hby d_prog_104_method_1_code_105) hr)
    subst hE0
    refine ⟨_, _, hrun0, hrun, hended, _, _, rfl, ?_, ⟨_, rfl⟩, hRW.2.1, hRW.2.2.1, hRW.2.2.2.mono (by decide) (by decide)⟩
    show QrmI Z a nm x z h0 n0 _ T95.heap _
    rw [e98]
    exact ⟨rfl, N101, K109, F104, F105, F106⟩
  · skip
    have k110 : own_G p e below E0 T44 (mkF m 91 #[vr a, vr nm, vd x, ss, vd z, ss] [(.ref nm), (.ref a)]) := by
      intro tQ kk
      refine k60 tQ ?_
      refine XS.ifYes X48.here hx rfl (pc0 := 63) (pc' := 89) rfl (hb hby d_prog_104_method_1_code_63) rfl (own_c_leY cx) (by decide) (by decide) ?_
      refine XS.aloadN X48.here hx rfl (hb hby d_prog_104_method_1_code_89) rfl rfl ?_
      refine XS.aloadN X48.here hx rfl (hb hby d_prog_104_method_1_code_90) rfl rfl ?_
      exact kk
    clear k60
    obtain ⟨T111, h112, X113, e114, W115, st116⟩ := putF X48 hx hZ hown (host := "") (Or.inl (tw50 hw)) Via.refl e56 F38 F37 (Or.inr ⟨(tw51 hw), rfl, hnm⟩) (tw32 hw) (ty := (.object "java/lang/String")) (by decide) rfl rfl (g := (mkF m 91 #[vr a, vr nm, vd x, ss, vd z, ss] [(.ref nm), (.ref a)])) rfl rfl (hb hby d_prog_104_method_1_code_91)
    have N117 := Fr.snoc X113 N58 ge_a
    have k118 : own_G p e below E0 T111 (mkF m 94 #[vr a, vr nm, vd x, ss, vd z, ss] []) := fun tQ kk => k110 tQ (st116 _ kk)
    clear k110 st116
    have F119 : xa5 Z h112 a := F37.wr W115
    clear F37
    have F120 : fd2 Z h112 a (.ref nm) := F38.same W115
    clear F38
    have F121 : fd3 Z h112 a (.double (0 : UInt64)) := F39.other W115 (Or.inr (slot_ne (C := "com/example/capwright/capwright/statement/OperatingStatement$Expense") (Or.inr (tw53 hw)) (Or.inr (tw51 hw)) (by decide) (t := .double) (t' := (.object "java/lang/String")) (by decide) (by decide)))
    clear F39
    have F122 : fd4 Z h112 a (.double (0 : UInt64)) := F40.other W115 (Or.inr (slot_ne (C := "com/example/capwright/capwright/statement/OperatingStatement$Expense") (Or.inr (tw55 hw)) (Or.inr (tw51 hw)) (by decide) (t := .double) (t' := (.object "java/lang/String")) (by decide) (by decide)))
    clear F40
    have F123 : own_Le ks29 h112 := F42.wr W115
    clear F42
    have Z124 : n0 ≤ h112.size := by rw [W115.size]; exact Z36
    clear Z36
    have K125 : Keep h0 h112 [a] := K41.wr W115 (Or.inl (List.mem_of_getElem? (i := 0) rfl))
    clear K41
    have k126 : own_G p e below E0 T111 (mkF m 96 #[vr a, vr nm, vd x, ss, vd z, ss] [(.double x), (.ref a)]) := by
      intro tQ kk
      refine k118 tQ ?_
      refine XS.aloadN X113.here hx rfl (hb hby d_prog_104_method_1_code_94) rfl rfl ?_
      refine XS.dloadN X113.here hx rfl (hb hby d_prog_104_method_1_code_95) rfl ?_
      exact kk
    clear k118
    obtain ⟨T127, h128, X129, e130, W131, st132⟩ := putF X113 hx hZ hown (host := "") (Or.inl (tw52 hw)) Via.refl e114 F121 F119 (Or.inr ⟨(tw53 hw), rfl, hnm⟩) (tw32 hw) (ty := .double) (by decide) rfl rfl (g := (mkF m 96 #[vr a, vr nm, vd x, ss, vd z, ss] [(.double x), (.ref a)])) rfl rfl (hb hby d_prog_104_method_1_code_96)
    have N133 := Fr.snoc X129 N117 ge_a
    have k134 : own_G p e below E0 T127 (mkF m 99 #[vr a, vr nm, vd x, ss, vd z, ss] []) := fun tQ kk => k126 tQ (st132 _ kk)
    clear k126 st132
    have F135 : xa5 Z h128 a := F119.wr W131
    clear F119
    have F136 : fd2 Z h128 a (.ref nm) := F120.other W131 (Or.inr (slot_ne (C := "com/example/capwright/capwright/statement/OperatingStatement$Expense") (Or.inr (tw51 hw)) (Or.inr (tw53 hw)) (by decide) (t := (.object "java/lang/String")) (t' := .double) (by decide) (by decide)))
    clear F120
    have F137 : fd3 Z h128 a (.double x) := F121.same W131
    clear F121
    have F138 : fd4 Z h128 a (.double (0 : UInt64)) := F122.other W131 (Or.inr (slot_ne (C := "com/example/capwright/capwright/statement/OperatingStatement$Expense") (Or.inr (tw55 hw)) (Or.inr (tw53 hw)) (by decide) (t := .double) (t' := .double) (by decide) (by decide)))
    clear F122
    have F139 : own_Le ks29 h128 := F123.wr W131
    clear F123
    have Z140 : n0 ≤ h128.size := by rw [W131.size]; exact Z124
    clear Z124
    have K141 : Keep h0 h128 [a] := K125.wr W131 (Or.inl (List.mem_of_getElem? (i := 0) rfl))
    clear K125
    have k142 : own_G p e below E0 T127 (mkF m 102 #[vr a, vr nm, vd x, ss, vd z, ss] [(.double z), (.ref a)]) := by
      intro tQ kk
      refine k134 tQ ?_
      refine XS.aloadN X129.here hx rfl (hb hby d_prog_104_method_1_code_99) rfl rfl ?_
      refine XS.dload X129.here hx rfl (hb hby d_prog_104_method_1_code_100) rfl ?_
      exact kk
    clear k134
    obtain ⟨T143, h144, X145, e146, W147, st148⟩ := putF X129 hx hZ hown (host := "") (Or.inl (tw54 hw)) Via.refl e130 F138 F135 (Or.inr ⟨(tw55 hw), rfl, hnm⟩) (tw32 hw) (ty := .double) (by decide) rfl rfl (g := (mkF m 102 #[vr a, vr nm, vd x, ss, vd z, ss] [(.double z), (.ref a)])) rfl rfl (hb hby d_prog_104_method_1_code_102)
    have N149 := Fr.snoc X145 N133 ge_a
    have k150 : own_G p e below E0 T143 (mkF m 105 #[vr a, vr nm, vd x, ss, vd z, ss] []) := fun tQ kk => k142 tQ (st148 _ kk)
    clear k142 st148
    have F151 : xa5 Z h144 a := F135.wr W147
    clear F135
    have F152 : fd2 Z h144 a (.ref nm) := F136.other W147 (Or.inr (slot_ne (C := "com/example/capwright/capwright/statement/OperatingStatement$Expense") (Or.inr (tw51 hw)) (Or.inr (tw55 hw)) (by decide) (t := (.object "java/lang/String")) (t' := .double) (by decide) (by decide)))
    clear F136
    have F153 : fd3 Z h144 a (.double x) := F137.other W147 (Or.inr (slot_ne (C := "com/example/capwright/capwright/statement/OperatingStatement$Expense") (Or.inr (tw53 hw)) (Or.inr (tw55 hw)) (by decide) (t := .double) (t' := .double) (by decide) (by decide)))
    clear F137
    have F154 : fd4 Z h144 a (.double z) := F138.same W147
    clear F138
    have F155 : own_Le ks29 h144 := F139.wr W147
    clear F139
    have Z156 : n0 ≤ h144.size := by rw [W147.size]; exact Z140
    clear Z140
    have K157 : Keep h0 h144 [a] := K141.wr W147 (Or.inl (List.mem_of_getElem? (i := 0) rfl))
    clear K141
    obtain ⟨fs, hr, hrun, hended, hRW⟩ := X145.leaveW S33 (Nat.le_trans F155 (Nat.le_of_eq (congrArg Array.size e146.symm))) (v := none) (fun h => rfl)
    have hrun0 := k150 _ (X145.returnOut hx Bd.returns (hb hby d_prog_104_method_1_code_105) hr)
    subst hE0
    refine ⟨_, _, hrun0, hrun, hended, _, _, rfl, ?_, ⟨_, rfl⟩, hRW.2.1, hRW.2.2.1, hRW.2.2.2.mono (by decide) (by decide)⟩
    show QrmI Z a nm x z h0 n0 _ T143.heap _
    rw [e146]
    exact ⟨rfl, N149, K157, F152, F153, F154⟩
def QrmA1 (Z : State) (a : Addr) (y : UInt64) (x : UInt64) (z : UInt64) (h0 : Heap) (n0 : Nat) (vQ : Option Value) (hQ : Heap) (LQ : List Loc) : Prop := vQ = some (.double (FP.dmul z y)) ∧ Fr n0 LQ ∧ hQ = h0
theorem ef_rmA1 (m : MethodId) (a : Addr) (y : UInt64) (x : UInt64) (z : UInt64) : entryFrame m #[(.ref a), (.double y)] 3 = mkF m 0 #[vr a, vd y, ss] [] := by first | (simp [entryFrame, mkF, argsToLocals, Value.category]; done) | rfl
abbrev mn9 : MethodName := ⟨"com/example/capwright/capwright/statement/OperatingStatement$Expense", "amountAt", "(D)D"⟩
theorem d_prog_104_method_3_code_0 : decode prog_104_method_3_code 0 = .ok (.aload_n 0, 1) := by decide +kernel
theorem d_prog_104_method_3_code_1 : decode prog_104_method_3_code 1 = .ok (.getfield 37, 3) := by decide +kernel
theorem d_prog_104_method_3_code_4 : decode prog_104_method_3_code 4 = .ok (.dconst 0, 1) := by decide +kernel
theorem d_prog_104_method_3_code_5 : decode prog_104_method_3_code 5 = .ok (.dcmp .l, 1) := by decide +kernel
theorem d_prog_104_method_3_code_6 : decode prog_104_method_3_code 6 = .ok (.ifCond .le 12, 3) := by decide +kernel
theorem d_prog_104_method_3_code_9 : decode prog_104_method_3_code 9 = .ok (.aload_n 0, 1) := by decide +kernel
theorem d_prog_104_method_3_code_10 : decode prog_104_method_3_code 10 = .ok (.getfield 37, 3) := by decide +kernel
theorem d_prog_104_method_3_code_13 : decode prog_104_method_3_code 13 = .ok (.dload_n 1, 1) := by decide +kernel
theorem d_prog_104_method_3_code_14 : decode prog_104_method_3_code 14 = .ok (.dmul, 1) := by decide +kernel
theorem d_prog_104_method_3_code_15 : decode prog_104_method_3_code 15 = .ok (.goto 7, 3) := by decide +kernel
theorem d_prog_104_method_3_code_22 : decode prog_104_method_3_code 22 = .ok (.dreturn, 1) := by decide +kernel
set_option maxRecDepth 65536 in
set_option maxHeartbeats 40000000 in
theorem rmA1 (l : Launch) (Z : State) (a0 : Array Value) (hw : ∀ d ∈ tables_1, d.before a0 Z = true) (ws : List Jvm.Cond) (a : Addr) (y : UInt64) (x : UInt64) (z : UInt64) (h0 : Heap) (n0 : Nat) (Z0 : n0 ≤ h0.size) (E1 : xa5 Z h0 a) (F1 : fd3 Z h0 a (.double x)) (F2 : fd4 Z h0 a (.double z)) (nz : NoNaN64 z) (gz : (own_z FP.dconst0) < own_z z) (nn : NoNaN64 (FP.dmul z y)) :
    MetFree l mn9 (head1 (Jvm.Cond.code mn9 prog_104_method_3_code 3 (some .double) :: ws) ({ frames := 0, cells := 0, slots := 0, locals := 0 } : Room)) (fun aA U => aA = #[(.ref a), (.double y)] ∧ Z.Warmed39 U.vm ∧ U.heap = h0) (fun _ _ _ _ _ => True) (fun _ U o U' => ∃ vR LR, o = .returned vR ∧ QrmA1 Z a y x z h0 n0 vR U'.heap LR ∧ FrameEnd U o U' LR ({ frames := 0, cells := 0, slots := 0, locals := 0 } : Room).cells ({ frames := 0, cells := 0, slots := 0, locals := 0 } : Room).slots) := by
  refine MetFree.of_bodySF (plainFor_of_name pn_com_example_capwright_capwright_statement_OperatingStatement_Expense) hisR ?_
  intro p e s m args below meth c s₁ Bd hml0 hPre hKk
  obtain ⟨rfl, hZ, hh⟩ := hPre
  have hx := Bd.exec
  have hby := Bd.bytes
  skip
  have hml : c.maxLocals = 3 := hml0
  have hown : s.vm.findClass "com/example/capwright/capwright/statement/OperatingStatement$Expense" = some m.cls := findClass_of_methodNamed Bd.named
  have hnm := (name_of_methodNamed Bd.named Bd.method).1
  have X0 : Stand p l e ({ frames := 0, cells := 0, slots := 0, locals := 0 } : Room) s m #[(.ref a), (.double y)] below meth c s₁ [] 0 0 := Stand.of_body Bd
  have e0 : s₁.heap = h0 := by rw [← hh, Bd.state]; rfl
  have N0 := Fr.nil n0
  obtain ⟨E0, hE0⟩ : ∃ zE : State, zE = s₁.setTop (entryFrame m #[(.ref a), (.double y)] 3) := ⟨_, rfl⟩
  have k0 : own_G p e below E0 s₁ (mkF m 0 #[vr a, vd y, ss] []) := fun tz kz => hE0 ▸ castTop (ef_rmA1 m a y x z) kz
  have k158 : own_G p e below E0 s₁ (mkF m 1 #[vr a, vd y, ss] [(.ref a)]) := by
    intro tQ kk
    refine k0 tQ ?_
    refine XS.aloadN X0.here hx rfl (hb hby d_prog_104_method_3_code_0) rfl rfl ?_
    exact kk
  clear k0
  obtain ⟨T159, X160, e161, st162⟩ := getF X0 hx hZ hown (host := "") (Or.inl (tw54 hw)) Via.refl e0 F2 (g := (mkF m 1 #[vr a, vd y, ss] [(.ref a)])) rfl rfl (hb hby d_prog_104_method_3_code_1)
  have k163 : own_G p e below E0 T159 (mkF m 4 #[vr a, vd y, ss] [(.double z)]) := fun tQ kk => k158 tQ (st162 _ kk)
  clear k158 st162
  have k164 : own_G p e below E0 T159 (mkF m 10 #[vr a, vd y, ss] [(.ref a)]) := by
    intro tQ kk
    refine k163 tQ ?_
    refine XS.dconst0 X160.here hx rfl (hb hby d_prog_104_method_3_code_4) rfl ?_
    refine XS.dcmpS (v := (own_c (own_z z) (own_z FP.dconst0))) X160.here hx rfl (hb hby d_prog_104_method_3_code_5) rfl (own_cE .l (own_cmpz nz own_n0)) ?_
    refine XS.ifNo X160.here hx rfl (hb hby d_prog_104_method_3_code_6) rfl (own_c_leN gz) ?_
    refine XS.aloadN X160.here hx rfl (hb hby d_prog_104_method_3_code_9) rfl rfl ?_
    exact kk
  clear k163
  obtain ⟨T165, X166, e167, st168⟩ := getF X160 hx hZ hown (host := "") (Or.inl (tw54 hw)) Via.refl e161 F2 (g := (mkF m 10 #[vr a, vd y, ss] [(.ref a)])) rfl rfl (hb hby d_prog_104_method_3_code_10)
  have k169 : own_G p e below E0 T165 (mkF m 13 #[vr a, vd y, ss] [(.double z)]) := fun tQ kk => k164 tQ (st168 _ kk)
  clear k164 st168
  have k170 : own_G p e below E0 T165 (mkF m 22 #[vr a, vd y, ss] [(.double (FP.dmul z y))]) := by
    intro tQ kk
    refine k169 tQ ?_
    refine XS.dloadN X166.here hx rfl (hb hby d_prog_104_method_3_code_13) rfl ?_
    refine XS.dmulS X166.here hx rfl (hb hby d_prog_104_method_3_code_14) rfl nn rfl ?_
    refine XS.goto X166.here hx rfl (pc0 := 15) (pc' := 22) rfl (hb hby d_prog_104_method_3_code_15) (by decide) (by decide) ?_
    exact kk
  clear k169
  obtain ⟨fs, hr, hrun, hended, hW, hsame⟩ := X166.leave (v := some (.double (FP.dmul z y))) (fun h => by rw [Bd.returns] at h; cases h)
  have hrun0 := k170 _ (retOut X166 hx Bd.returns (t := .double) rfl (Or.inr (Or.inr (Or.inl ⟨rfl, rfl, _, rfl⟩))) (hb hby d_prog_104_method_3_code_22) hr)
  subst hE0
  refine ⟨_, _, hrun0, hrun, hended, _, _, rfl, ?_, ⟨_, rfl⟩, hW, hsame.mono (by decide) (by decide)⟩
  show QrmA1 Z a y x z h0 n0 _ T165.heap _
  rw [e167]
  exact ⟨rfl, N0, rfl⟩
def QrmA2 (Z : State) (a : Addr) (y : UInt64) (x : UInt64) (z : UInt64) (h0 : Heap) (n0 : Nat) (vQ : Option Value) (hQ : Heap) (LQ : List Loc) : Prop := vQ = some (.double x) ∧ Fr n0 LQ ∧ hQ = h0
theorem ef_rmA2 (m : MethodId) (a : Addr) (y : UInt64) (x : UInt64) (z : UInt64) : entryFrame m #[(.ref a), (.double y)] 3 = mkF m 0 #[vr a, vd y, ss] [] := by first | (simp [entryFrame, mkF, argsToLocals, Value.category]; done) | rfl
theorem d_prog_104_method_3_code_18 : decode prog_104_method_3_code 18 = .ok (.aload_n 0, 1) := by decide +kernel
theorem d_prog_104_method_3_code_19 : decode prog_104_method_3_code 19 = .ok (.getfield 33, 3) := by decide +kernel
set_option maxRecDepth 65536 in
set_option maxHeartbeats 40000000 in
theorem rmA2 (l : Launch) (Z : State) (a0 : Array Value) (hw : ∀ d ∈ tables_1, d.before a0 Z = true) (ws : List Jvm.Cond) (a : Addr) (y : UInt64) (x : UInt64) (z : UInt64) (h0 : Heap) (n0 : Nat) (Z0 : n0 ≤ h0.size) (E1 : xa5 Z h0 a) (F1 : fd3 Z h0 a (.double x)) (F2 : fd4 Z h0 a (.double z)) (nz : NoNaN64 z) (gz : ¬ (own_z FP.dconst0) < own_z z) :
    MetFree l mn9 (head1 (Jvm.Cond.code mn9 prog_104_method_3_code 3 (some .double) :: ws) ({ frames := 0, cells := 0, slots := 0, locals := 0 } : Room)) (fun aA U => aA = #[(.ref a), (.double y)] ∧ Z.Warmed39 U.vm ∧ U.heap = h0) (fun _ _ _ _ _ => True) (fun _ U o U' => ∃ vR LR, o = .returned vR ∧ QrmA2 Z a y x z h0 n0 vR U'.heap LR ∧ FrameEnd U o U' LR ({ frames := 0, cells := 0, slots := 0, locals := 0 } : Room).cells ({ frames := 0, cells := 0, slots := 0, locals := 0 } : Room).slots) := by
  refine MetFree.of_bodySF (plainFor_of_name pn_com_example_capwright_capwright_statement_OperatingStatement_Expense) hisR ?_
  intro p e s m args below meth c s₁ Bd hml0 hPre hKk
  obtain ⟨rfl, hZ, hh⟩ := hPre
  have hx := Bd.exec
  have hby := Bd.bytes
  skip
  have hml : c.maxLocals = 3 := hml0
  have hown : s.vm.findClass "com/example/capwright/capwright/statement/OperatingStatement$Expense" = some m.cls := findClass_of_methodNamed Bd.named
  have hnm := (name_of_methodNamed Bd.named Bd.method).1
  have X0 : Stand p l e ({ frames := 0, cells := 0, slots := 0, locals := 0 } : Room) s m #[(.ref a), (.double y)] below meth c s₁ [] 0 0 := Stand.of_body Bd
  have e0 : s₁.heap = h0 := by rw [← hh, Bd.state]; rfl
  have N0 := Fr.nil n0
  obtain ⟨E0, hE0⟩ : ∃ zE : State, zE = s₁.setTop (entryFrame m #[(.ref a), (.double y)] 3) := ⟨_, rfl⟩
  have k0 : own_G p e below E0 s₁ (mkF m 0 #[vr a, vd y, ss] []) := fun tz kz => hE0 ▸ castTop (ef_rmA2 m a y x z) kz
  have k171 : own_G p e below E0 s₁ (mkF m 1 #[vr a, vd y, ss] [(.ref a)]) := by
    intro tQ kk
    refine k0 tQ ?_
    refine XS.aloadN X0.here hx rfl (hb hby d_prog_104_method_3_code_0) rfl rfl ?_
    exact kk
  clear k0
  obtain ⟨T172, X173, e174, st175⟩ := getF X0 hx hZ hown (host := "") (Or.inl (tw54 hw)) Via.refl e0 F2 (g := (mkF m 1 #[vr a, vd y, ss] [(.ref a)])) rfl rfl (hb hby d_prog_104_method_3_code_1)
  have k176 : own_G p e below E0 T172 (mkF m 4 #[vr a, vd y, ss] [(.double z)]) := fun tQ kk => k171 tQ (st175 _ kk)
  clear k171 st175
  have k177 : own_G p e below E0 T172 (mkF m 19 #[vr a, vd y, ss] [(.ref a)]) := by
    intro tQ kk
    refine k176 tQ ?_
    refine XS.dconst0 X173.here hx rfl (hb hby d_prog_104_method_3_code_4) rfl ?_
    refine XS.dcmpS (v := (own_c (own_z z) (own_z FP.dconst0))) X173.here hx rfl (hb hby d_prog_104_method_3_code_5) rfl (own_cE .l (own_cmpz nz own_n0)) ?_
    refine XS.ifYes X173.here hx rfl (pc0 := 6) (pc' := 18) rfl (hb hby d_prog_104_method_3_code_6) rfl (own_c_leY gz) (by decide) (by decide) ?_
    refine XS.aloadN X173.here hx rfl (hb hby d_prog_104_method_3_code_18) rfl rfl ?_
    exact kk
  clear k176
  obtain ⟨T178, X179, e180, st181⟩ := getF X173 hx hZ hown (host := "") (Or.inl (tw52 hw)) Via.refl e174 F1 (g := (mkF m 19 #[vr a, vd y, ss] [(.ref a)])) rfl rfl (hb hby d_prog_104_method_3_code_19)
  have k182 : own_G p e below E0 T178 (mkF m 22 #[vr a, vd y, ss] [(.double x)]) := fun tQ kk => k177 tQ (st181 _ kk)
  clear k177 st181
  obtain ⟨fs, hr, hrun, hended, hW, hsame⟩ := X179.leave (v := some (.double x)) (fun h => by rw [Bd.returns] at h; cases h)
  have hrun0 := k182 _ (retOut X179 hx Bd.returns (t := .double) rfl (Or.inr (Or.inr (Or.inl ⟨rfl, rfl, _, rfl⟩))) (hb hby d_prog_104_method_3_code_22) hr)
  subst hE0
  refine ⟨_, _, hrun0, hrun, hended, _, _, rfl, ?_, ⟨_, rfl⟩, hW, hsame.mono (by decide) (by decide)⟩
  show QrmA2 Z a y x z h0 n0 _ T178.heap _
  rw [e180]
  exact ⟨rfl, N0, rfl⟩
def Qrm0 (Z : State) (p0 : Int32) (p1 : Int64) (p2 : Int32) (p3 : Int32) (p4 : Int32) (G1 : Int32) (h0 : Heap) (n0 : Nat) (vQ : Option Value) (hQ : Heap) (LQ : List Loc) : Prop := vQ = some (.int (1 : Int32)) ∧ Fr n0 LQ
theorem ef_rm0 (m : MethodId) (p0 : Int32) (p1 : Int64) (p2 : Int32) (p3 : Int32) (p4 : Int32) (G1 : Int32) : entryFrame m #[(.int p0), (.long p1), (.int p2), (.int p3), (.int p4)] maxLocals = mkF m 0 #[vi p0, vj p1, ss, vi p2, vi p3, vi p4, uu, uu, uu, uu, uu, uu, uu, uu, uu, uu] [] := by first | (simp [entryFrame, mkF, argsToLocals, Value.category, maxLocals]; done) | rfl
theorem pn_com_example_capwright_capwright_statement_ExpenseAmountAtPinLaw : plainName "com/example/capwright/capwright/statement/ExpenseAmountAtPinLaw" = true := by first | (simp [plainName, overriddenIn]; done) | decide +kernel
def tw0 {Z : State} {a0 : Array Value} (hw : ∀ d ∈ tables_1, d.before a0 Z = true) := hw _ (List.mem_of_getElem? (i := 0) rfl)
def tw1 {Z : State} {a0 : Array Value} (hw : ∀ d ∈ tables_1, d.before a0 Z = true) := hw _ (List.mem_of_getElem? (i := 1) rfl)
def tw2 {Z : State} {a0 : Array Value} (hw : ∀ d ∈ tables_1, d.before a0 Z = true) := hw _ (List.mem_of_getElem? (i := 2) rfl)
def tw3 {Z : State} {a0 : Array Value} (hw : ∀ d ∈ tables_1, d.before a0 Z = true) := hw _ (List.mem_of_getElem? (i := 3) rfl)
def tw27 {Z : State} {a0 : Array Value} (hw : ∀ d ∈ tables_1, d.before a0 Z = true) := hw _ (List.mem_of_getElem? (i := 27) rfl)
def tw29 {Z : State} {a0 : Array Value} (hw : ∀ d ∈ tables_1, d.before a0 Z = true) := hw _ (List.mem_of_getElem? (i := 29) rfl)
def tw4 {Z : State} {a0 : Array Value} (hw : ∀ d ∈ tables_1, d.before a0 Z = true) := hw _ (List.mem_of_getElem? (i := 4) rfl)
theorem own_hws {Z : State} {a0 : Array Value} (hw : ∀ d ∈ tables_1, d.before a0 Z = true) : ∀ d ∈ StrChars.Road.words, d.before a0 Z = true := fun d hd => hw d ((by decide +kernel : ∀ d ∈ StrChars.Road.words, d ∈ tables_1) d hd)
abbrev mn10 : MethodName := ⟨"java/lang/String", "<init>", "([C)V"⟩
def tw5 {Z : State} {a0 : Array Value} (hw : ∀ d ∈ tables_1, d.before a0 Z = true) := hw _ (List.mem_of_getElem? (i := 5) rfl)
def tw6 {Z : State} {a0 : Array Value} (hw : ∀ d ∈ tables_1, d.before a0 Z = true) := hw _ (List.mem_of_getElem? (i := 6) rfl)
theorem pd_11 : parseMethodDescriptor "([C)V" = some ⟨[(.array .char)], none⟩ := by decide +kernel
abbrev xa12 (Z : State) (h : Heap) (a : Addr) : Prop := Exa Z h a "java/lang/String"
def tw30 {Z : State} {a0 : Array Value} (hw : ∀ d ∈ tables_1, d.before a0 Z = true) := hw _ (List.mem_of_getElem? (i := 30) rfl)
def tw31 {Z : State} {a0 : Array Value} (hw : ∀ d ∈ tables_1, d.before a0 Z = true) := hw _ (List.mem_of_getElem? (i := 31) rfl)
def tw33 {Z : State} {a0 : Array Value} (hw : ∀ d ∈ tables_1, d.before a0 Z = true) := hw _ (List.mem_of_getElem? (i := 33) rfl)
def tw34 {Z : State} {a0 : Array Value} (hw : ∀ d ∈ tables_1, d.before a0 Z = true) := hw _ (List.mem_of_getElem? (i := 34) rfl)
def tw36 {Z : State} {a0 : Array Value} (hw : ∀ d ∈ tables_1, d.before a0 Z = true) := hw _ (List.mem_of_getElem? (i := 36) rfl)
theorem pd_13 : parseMethodDescriptor "(Ljava/lang/String;DD)V" = some ⟨[(.object "java/lang/String"), .double, .double], none⟩ := by decide +kernel
def tw35 {Z : State} {a0 : Array Value} (hw : ∀ d ∈ tables_1, d.before a0 Z = true) := hw _ (List.mem_of_getElem? (i := 35) rfl)
def tw56 {Z : State} {a0 : Array Value} (hw : ∀ d ∈ tables_1, d.before a0 Z = true) := hw _ (List.mem_of_getElem? (i := 56) rfl)
def tw59 {Z : State} {a0 : Array Value} (hw : ∀ d ∈ tables_1, d.before a0 Z = true) := hw _ (List.mem_of_getElem? (i := 59) rfl)
def tw60 {Z : State} {a0 : Array Value} (hw : ∀ d ∈ tables_1, d.before a0 Z = true) := hw _ (List.mem_of_getElem? (i := 60) rfl)
theorem pd_14 : parseMethodDescriptor "(D)D" = some ⟨[.double], some .double⟩ := by decide +kernel
def tw57 {Z : State} {a0 : Array Value} (hw : ∀ d ∈ tables_1, d.before a0 Z = true) := hw _ (List.mem_of_getElem? (i := 57) rfl)
def tw58 {Z : State} {a0 : Array Value} (hw : ∀ d ∈ tables_1, d.before a0 Z = true) := hw _ (List.mem_of_getElem? (i := 58) rfl)
def tw61 {Z : State} {a0 : Array Value} (hw : ∀ d ∈ tables_1, d.before a0 Z = true) := hw _ (List.mem_of_getElem? (i := 61) rfl)
set_option maxRecDepth 65536 in
set_option maxHeartbeats 40000000 in
theorem rm0 (l : Launch) (Z : State) (a0 : Array Value) (hw : ∀ d ∈ tables_1, d.before a0 Z = true) (ws : List Jvm.Cond) (p0 : Int32) (p1 : Int64) (p2 : Int32) (p3 : Int32) (p4 : Int32) (G1 : Int32) (h0 : Heap) (n0 : Nat) (Z0 : n0 ≤ h0.size) (FS : Sta Z h0 "java/lang/String" "COMPACT_STRINGS" "Z" (.int G1)) (hG : ¬ G1 = 0) :
    MetFree l x (head1 (Jvm.Cond.code x code maxLocals ret :: ws) room_1) (fun aA U => aA = #[(.int p0), (.long p1), (.int p2), (.int p3), (.int p4)] ∧ Z.Warmed39 U.vm ∧ U.heap = h0) (fun _ _ _ _ _ => True) (fun _ U o U' => ∃ vR LR, o = .returned vR ∧ Qrm0 Z p0 p1 p2 p3 p4 G1 h0 n0 vR U'.heap LR ∧ ReturnedEndW U o U' LR 24 1152) := by
  refine MetFree.of_bodySF (plainFor_of_name pn_com_example_capwright_capwright_statement_ExpenseAmountAtPinLaw) hisR ?_
  intro p e s m args below meth c s₁ Bd hml0 hPre hKk
  obtain ⟨rfl, hZ, hh⟩ := hPre
  have hx := Bd.exec
  have hby := Bd.bytes
  skip
  have hml : c.maxLocals = 16 := hml0
  have hown : s.vm.findClass "com/example/capwright/capwright/statement/ExpenseAmountAtPinLaw" = some m.cls := findClass_of_methodNamed Bd.named
  have hnm := (name_of_methodNamed Bd.named Bd.method).1
  have X0 : Stand p l e room_1 (s.setVm s.vm) m #[(.int p0), (.long p1), (.int p2), (.int p3), (.int p4)] below meth c s₁ [] 0 0 := Stand.of_body Bd
  have e0 : s₁.heap = h0 := by rw [← hh, Bd.state]; rfl
  have N0 := Fr.nil n0
  obtain ⟨E0, hE0⟩ : ∃ zE : State, zE = s₁.setTop (entryFrame m #[(.int p0), (.long p1), (.int p2), (.int p3), (.int p4)] maxLocals) := ⟨_, rfl⟩
  have k0 : own_G p e below E0 s₁ (mkF m 0 #[vi p0, vj p1, ss, vi p2, vi p3, vi p4, uu, uu, uu, uu, uu, uu, uu, uu, uu, uu] []) := fun tz kz => hE0 ▸ castTop (ef_rm0 m p0 p1 p2 p3 p4 G1) kz
  have S0 : s.Since s.vm 0 := (State.WarmedH.refl s).since 0
  have LE0 : own_Le 0 h0 := Nat.zero_le _
  have k183 : own_G p e below E0 s₁ (mkF m 1 #[vi p0, vj p1, ss, vi p2, vi p3, vi p4, uu, uu, uu, uu, uu, uu, uu, uu, uu, uu] [(.int (1 : Int32))]) := by
    intro tQ kk
    refine k0 tQ ?_
    refine XS.iconst X0.here hx rfl (hb hby at_0) ?_
    exact kk
  clear k0
  obtain ⟨T184, h185, cA186, X187, e188, E189, A190, st191⟩ := newP (aty := .char) X0 hx hZ (tw0 hw) e0 (g := (mkF m 1 #[vi p0, vj p1, ss, vi p2, vi p3, vi p4, uu, uu, uu, uu, uu, uu, uu, uu, uu, uu] [(.int (1 : Int32))])) rfl (hb hby at_1) rfl (by decide) (cap := 1) (by decide) (by decide) (by decide) (by decide)
  obtain ⟨a192, g193⟩ : ∃ zA : Nat, zA = h0.size := ⟨_, rfl⟩
  rw [← g193] at A190 st191
  have ge194 : n0 ≤ a192 := own_ge_of Z0 g193
  have Z195 : n0 ≤ h185.size := Nat.le_trans Z0 E189.1
  have F196 : Sta Z h185 "java/lang/String" "COMPACT_STRINGS" "Z" (.int G1) := FS.ext E189
  clear FS
  have F197 : own_Le 0 h185 := LE0.ext E189
  have F198 : own_A Z h185 a192 .char [(.int (0 : Int32))] := own_A.new A190
  have k199 : own_G p e below E0 T184 (mkF m 3 #[vi p0, vj p1, ss, vi p2, vi p3, vi p4, uu, uu, uu, uu, uu, uu, uu, uu, uu, uu] [(.ref a192)]) := fun tQ kk => k183 tQ (st191 _ kk)
  clear k183 st191
  have k200 : own_G p e below E0 T184 (mkF m 15 #[vi p0, vj p1, ss, vi p2, vi p3, vi p4, vr a192, uu, uu, uu, uu, uu, uu, uu, uu, uu] [(.int ((p4 &&& (255 : Int32)).toUInt32.toUInt16.toUInt32.toInt32)), (.int (0 : Int32)), (.ref a192)]) := by
    intro tQ kk
    refine k199 tQ ?_
    refine XS.astore X187.here hx rfl (hb hby at_3) rfl rfl (l' := #[vi p0, vj p1, ss, vi p2, vi p3, vi p4, vr a192, uu, uu, uu, uu, uu, uu, uu, uu, uu]) rfl ?_
    refine XS.aload X187.here hx rfl (hb hby at_5) rfl rfl ?_
    refine XS.iconst X187.here hx rfl (hb hby at_7) ?_
    refine XS.iload X187.here hx rfl (hb hby at_8) rfl ?_
    show Steps p.tables e below (T184.setTop (mkF m 10 #[vi p0, vj p1, ss, vi p2, vi p3, vi p4, vr a192, uu, uu, uu, uu, uu, uu, uu, uu, uu] [(.int p4), (.int (0 : Int32)), (.ref a192)])) tQ
    refine XS.sipush X187.here hx rfl (hb hby at_10) ?_
    refine XS.iand X187.here hx rfl (hb hby at_13) rfl ?_
    refine XT.i2c X187.here hx rfl (hb hby at_14) rfl ?_
    exact kk
  clear k199
  obtain ⟨T201, h202, X203, e204, W205, F206, st207⟩ := own_A.cst X187 hx hZ e188 F198 (j := (0 : Int32)) (by decide) rfl (g := (mkF m 15 #[vi p0, vj p1, ss, vi p2, vi p3, vi p4, vr a192, uu, uu, uu, uu, uu, uu, uu, uu, uu] [(.int ((p4 &&& (255 : Int32)).toUInt32.toUInt16.toUInt32.toInt32)), (.int (0 : Int32)), (.ref a192)])) rfl rfl (hb hby at_15)
  have N208 := Fr.snoc X203 N0 ge194
  have k209 : own_G p e below E0 T201 (mkF m 16 #[vi p0, vj p1, ss, vi p2, vi p3, vi p4, vr a192, uu, uu, uu, uu, uu, uu, uu, uu, uu] []) := fun tQ kk => k200 tQ (st207 _ kk)
  clear k200 st207
  have F210 : Sta Z h202 "java/lang/String" "COMPACT_STRINGS" "Z" (.int G1) := F196.wr W205
  clear F196
  have F211 : own_Le 0 h202 := F197.wr W205
  clear F197
  have Z212 : n0 ≤ h202.size := by rw [W205.size]; exact Z195
  clear Z195
  have F213 : own_A Z h202 a192 .char [(.int (nar .char ((p4 &&& (255 : Int32)).toUInt32.toUInt16.toUInt32.toInt32)))] := F206
  obtain ⟨T214, h215, X216, e217, E218, A219, D220, -, st221⟩ := newO X203 hx hZ hown (tw1 hw) (tw2 hw) (tw3 hw) e204 (g := (mkF m 16 #[vi p0, vj p1, ss, vi p2, vi p3, vi p4, vr a192, uu, uu, uu, uu, uu, uu, uu, uu, uu] [])) rfl (hb hby at_16) (by decide) (by decide)
  obtain ⟨a222, g223⟩ : ∃ zA : Nat, zA = h202.size := ⟨_, rfl⟩
  rw [← g223] at A219 D220 st221
  have n224 : a192 ≠ a222 := own_lt_ne F213.lt g223
  have n225 : a222 ≠ a192 := fun q => n224 q.symm
  have ge226 : n0 ≤ a222 := own_ge_of Z212 g223
  have Z227 : n0 ≤ h215.size := Nat.le_trans Z212 E218.1
  clear Z212
  have F228 : Sta Z h215 "java/lang/String" "COMPACT_STRINGS" "Z" (.int G1) := F210.ext E218
  clear F210
  have F229 : own_Le 0 h215 := F211.ext E218
  clear F211
  have F230 : own_A Z h215 a192 .char [(.int (nar .char ((p4 &&& (255 : Int32)).toUInt32.toUInt16.toUInt32.toInt32)))] := F213.ext E218
  clear F213
  have F231 : Fld Z h215 a222 "java/lang/String" "coder" "B" (.int (0 : Int32)) := (D220 (Or.inr (tw27 hw)) (ty := .byte) (by decide))
  have F232 : Fld Z h215 a222 "java/lang/String" "value" "[B" .null := (D220 (Or.inr (tw29 hw)) (ty := (.array .byte)) (by decide))
  have k233 : own_G p e below E0 T214 (mkF m 19 #[vi p0, vj p1, ss, vi p2, vi p3, vi p4, vr a192, uu, uu, uu, uu, uu, uu, uu, uu, uu] [(.ref a222)]) := fun tQ kk => k209 tQ (st221 _ kk)
  clear k209 st221
  have k234 : own_G p e below E0 T214 (mkF m 22 #[vi p0, vj p1, ss, vi p2, vi p3, vi p4, vr a192, uu, uu, uu, uu, uu, uu, uu, uu, uu] [(.ref a192), (.ref a222), (.ref a222)]) := by
    intro tQ kk
    refine k233 tQ ?_
    refine XS.dup X216.here hx rfl (hb hby at_19) rfl rfl ?_
    refine XS.aload X216.here hx rfl (hb hby at_20) rfl rfl ?_
    exact kk
  clear k233
  obtain ⟨kA235, FA236⟩ := own_A.arv F230 (1 : Int32) rfl (by decide) (.int 0) (by intro v hv; simp only [List.mem_cons, List.not_mem_nil, or_false] at hv; rcases hv with rfl <;> exact fits_nar_char _)
  have hl237 : ∀ c ∈ ([(nar .char ((p4 &&& (255 : Int32)).toUInt32.toUInt16.toUInt32.toInt32))] : List Int32), ¬ c < 0 ∧ ¬ (255 : Int32) < c := by
    intro c hc; simp only [List.mem_cons, List.not_mem_nil, or_false] at hc
    rcases hc with rfl
    · exact (own_lat p4)
  obtain ⟨_, _, ⟨T238, L239, kc240, nc241⟩, -, X242, ⟨Lc243, hQ244, l245, y246, z247⟩, st248⟩ := X216.specialBack hx (y := mn10) rfl hown (mvT hZ (tw4 hw)) (mvT hZ (tw5 hw)) (mvT hZ (tw6 hw)) (by decide) (StrChars.Road.backV (W := 1) hZ (own_hws hw) (kI := 4) (tw2 hw) (cs := [(nar .char ((p4 &&& (255 : Int32)).toUInt32.toUInt16.toUInt32.toInt32))]) (bs := List.map (fun c => c.toInt8.toInt32) [(nar .char ((p4 &&& (255 : Int32)).toUInt32.toUInt16.toUInt32.toInt32))]) (n := 1) ge226 Z227 A219 F232 F231 FA236 F228 hG rfl rfl (by decide) (by decide) hl237 rfl (by decide) (by decide)) (g := (mkF m 22 #[vi p0, vj p1, ss, vi p2, vi p3, vi p4, vr a192, uu, uu, uu, uu, uu, uu, uu, uu, uu] [(.ref a192), (.ref a222), (.ref a222)])) rfl (by rw [hml]; rfl) (Steps.refl _) (a := a222) (argsL := [(.ref a192)]) (rest := [(.ref a222)]) (lenOf pd_11 rfl) rfl (by show 2 * 0 + _ ≤ _; exact Nat.le_of_eq rfl) (hb hby at_22) (fun _ _ => ⟨rfl, e217, (by decide : 2 + 1 ≤ _), (by decide : 5 + 1 ≤ _)⟩)
  dsimp only [Pt.U, Pt.locs, Pt.cells, Pt.slots] at X242 l245 y246 z247 st248 hQ244
  subst y246 z247
  obtain ⟨rfl, N249, K250, -⟩ := hQ244
  have N251 : Fr n0 L239 := by rw [l245]; exact Fr.app N208 N249
  clear l245 N249
  have Z252 : n0 ≤ T238.heap.size := Nat.le_trans Z227 K250.1
  clear Z227
  have F253 : own_Le 0 T238.heap := F229.keep K250
  clear F229
  have F254 : own_A Z T238.heap a192 .char [(.int (nar .char ((p4 &&& (255 : Int32)).toUInt32.toUInt16.toUInt32.toInt32)))] := F230.keep K250 (ninS n224 nin0)
  clear F230
  have F255 : xa12 Z T238.heap a222 := A219.keep K250
  clear A219
  clear F231
  clear F232
  have k256 : own_G p e below E0 T238 (mkF m 25 #[vi p0, vj p1, ss, vi p2, vi p3, vi p4, vr a192, uu, uu, uu, uu, uu, uu, uu, uu, uu] [(.ref a222)]) := fun tQ kk => k234 tQ (st248.trans kk)
  clear k234 st248
  have k257 : own_G p e below E0 T238 (mkF m 35 #[vi p0, vj p1, ss, vi p2, vi p3, vi p4, vr a192, vr a222, vd (FP.i2d p3), ss, uu, uu, uu, uu, uu, uu] [(.int (p0 &&& (1 : Int32)))]) := by
    intro tQ kk
    refine k256 tQ ?_
    refine XS.astore X242.here hx rfl (hb hby at_25) rfl rfl (l' := #[vi p0, vj p1, ss, vi p2, vi p3, vi p4, vr a192, vr a222, uu, uu, uu, uu, uu, uu, uu, uu]) rfl ?_
    refine XS.iload X242.here hx rfl (hb hby at_27) rfl ?_
    refine XS.i2dS X242.here hx rfl (hb hby at_29) rfl rfl ?_
    refine XS.dstore X242.here hx rfl (hb hby at_30) rfl (l' := #[vi p0, vj p1, ss, vi p2, vi p3, vi p4, vr a192, vr a222, vd (FP.i2d p3), ss, uu, uu, uu, uu, uu, uu]) rfl ?_
    show Steps p.tables e below (T238.setTop (mkF m 32 #[vi p0, vj p1, ss, vi p2, vi p3, vi p4, vr a192, vr a222, vd (FP.i2d p3), ss, uu, uu, uu, uu, uu, uu] [])) tQ
    refine XS.iloadN X242.here hx rfl (hb hby at_32) rfl ?_
    refine XS.iconst X242.here hx rfl (hb hby at_33) ?_
    refine XS.iand X242.here hx rfl (hb hby at_34) rfl ?_
    exact kk
  clear k256
  by_cases c258 : (p0 &&& (1 : Int32)) = 0
  · skip
    have k259 : own_G p e below E0 T238 (mkF m 103 #[vi p0, vj p1, ss, vi p2, vi p3, vi p4, vr a192, vr a222, vd (FP.i2d p3), ss, uu, uu, uu, uu, uu, uu] [(.long p1)]) := by
      intro tQ kk
      refine k257 tQ ?_
      refine XS.ifYes X242.here hx rfl (pc0 := 35) (pc' := 102) rfl (hb hby at_35) rfl (own_if_eqY c258) (by decide) (by decide) ?_
      refine XT.lloadN X242.here hx rfl (hb hby at_102) rfl ?_
      exact kk
    clear k257
    have st260 := X242.ldc2Long hx hown (mvT hZ (tw30 hw)) (g := (mkF m 103 #[vi p0, vj p1, ss, vi p2, vi p3, vi p4, vr a192, vr a222, vd (FP.i2d p3), ss, uu, uu, uu, uu, uu, uu] [(.long p1)])) rfl (hb hby at_103)
    have k261 : own_G p e below E0 T238 (mkF m 106 #[vi p0, vj p1, ss, vi p2, vi p3, vi p4, vr a192, vr a222, vd (FP.i2d p3), ss, uu, uu, uu, uu, uu, uu] [(.long (9223372036854775807 : Int64)), (.long p1)]) := fun tQ kk => k259 tQ (st260 _ kk)
    clear k259 st260
    have k262 : own_G p e below E0 T238 (mkF m 107 #[vi p0, vj p1, ss, vi p2, vi p3, vi p4, vr a192, vr a222, vd (FP.i2d p3), ss, uu, uu, uu, uu, uu, uu] [(.long (p1 &&& (9223372036854775807 : Int64)))]) := by
      intro tQ kk
      refine k261 tQ ?_
      refine XT.land X242.here hx rfl (hb hby at_106) rfl ?_
      exact kk
    clear k261
    obtain ⟨am, ham⟩ : ∃ vA, FP.l2d (p1 &&& (9223372036854775807 : Int64)) = vA := ⟨_, rfl⟩
    have k263 : own_G p e below E0 T238 (mkF m 110 #[vi p0, vj p1, ss, vi p2, vi p3, vi p4, vr a192, vr a222, vd (FP.i2d p3), ss, vd am, ss, uu, uu, uu, uu] []) := by
      intro tQ kk
      refine k262 tQ ?_
      refine XS.l2dS X242.here hx rfl (hb hby at_107) rfl ham ?_
      refine XS.dstore X242.here hx rfl (hb hby at_108) rfl (l' := #[vi p0, vj p1, ss, vi p2, vi p3, vi p4, vr a192, vr a222, vd (FP.i2d p3), ss, vd am, ss, uu, uu, uu, uu]) rfl ?_
      exact kk
    clear k262
    obtain ⟨T264, h265, X266, e267, E268, A269, D270, -, st271⟩ := newO X242 hx hZ hown (tw31 hw) (tw32 hw) (tw33 hw) rfl (g := (mkF m 110 #[vi p0, vj p1, ss, vi p2, vi p3, vi p4, vr a192, vr a222, vd (FP.i2d p3), ss, vd am, ss, uu, uu, uu, uu] [])) rfl (hb hby at_110) (by decide) (by decide)
    obtain ⟨a272, g273⟩ : ∃ zA : Nat, zA = T238.heap.size := ⟨_, rfl⟩
    rw [← g273] at A269 D270 st271
    have n274 : a192 ≠ a272 := own_lt_ne F254.lt g273
    have n275 : a272 ≠ a192 := fun q => n274 q.symm
    have n276 : a222 ≠ a272 := own_lt_ne F255.lt g273
    have n277 : a272 ≠ a222 := fun q => n276 q.symm
    have ge278 : n0 ≤ a272 := own_ge_of Z252 g273
    have Z279 : n0 ≤ h265.size := Nat.le_trans Z252 E268.1
    clear Z252
    have F280 : own_Le 0 h265 := F253.ext E268
    clear F253
    have F281 : own_A Z h265 a192 .char [(.int (nar .char ((p4 &&& (255 : Int32)).toUInt32.toUInt16.toUInt32.toInt32)))] := F254.ext E268
    clear F254
    have F282 : xa12 Z h265 a222 := F255.ext E268
    clear F255
    have F283 : Fld Z h265 a272 "com/example/capwright/capwright/statement/OperatingStatement$Expense" "name" "Ljava/lang/String;" .null := (D270 (Or.inr (tw51 hw)) (ty := (.object "java/lang/String")) (by decide))
    have F284 : Fld Z h265 a272 "com/example/capwright/capwright/statement/OperatingStatement$Expense" "amount" "D" (.double (0 : UInt64)) := (D270 (Or.inr (tw53 hw)) (ty := .double) (by decide))
    have F285 : Fld Z h265 a272 "com/example/capwright/capwright/statement/OperatingStatement$Expense" "shareOfEgi" "D" (.double (0 : UInt64)) := (D270 (Or.inr (tw55 hw)) (ty := .double) (by decide))
    have k286 : own_G p e below E0 T264 (mkF m 113 #[vi p0, vj p1, ss, vi p2, vi p3, vi p4, vr a192, vr a222, vd (FP.i2d p3), ss, vd am, ss, uu, uu, uu, uu] [(.ref a272)]) := fun tQ kk => k263 tQ (st271 _ kk)
    clear k263 st271
    have k287 : own_G p e below E0 T264 (mkF m 119 #[vi p0, vj p1, ss, vi p2, vi p3, vi p4, vr a192, vr a222, vd (FP.i2d p3), ss, vd am, ss, uu, uu, uu, uu] [(.double FP.dconst0), (.double am), (.ref a222), (.ref a272), (.ref a272)]) := by
      intro tQ kk
      refine k286 tQ ?_
      refine XS.dup X266.here hx rfl (hb hby at_113) rfl rfl ?_
      refine XS.aload X266.here hx rfl (hb hby at_114) rfl rfl ?_
      refine XS.dload X266.here hx rfl (hb hby at_116) rfl ?_
      refine XS.dconst0 X266.here hx rfl (hb hby at_118) rfl ?_
      exact kk
    clear k286
    obtain ⟨_, _, ⟨T288, L289, kc290, nc291⟩, -, X292, S299, G300, ⟨Lc293, hQ294, l295, y296, z297⟩, st298⟩ := X266.specialBackS hx (y := mn6) rfl hown (mvT hZ (tw34 hw)) (mvT hZ (tw35 hw)) (mvT hZ (tw36 hw)) (by decide) (backOfS (W := 1) (rmI l Z a0 hw [] a272 a222 am FP.dconst0 h265 n0 Z279 A269 F283 F284 F285 ge278 (own_amf ham).noNaN own_n0 (own_am0 ham) (Int.lt_irrefl _) (own_le1 own_01) (fun _ => Int.lt_irrefl _)) hZ (tw36 hw) (tw33 hw) (by decide) (by decide)) (g := (mkF m 119 #[vi p0, vj p1, ss, vi p2, vi p3, vi p4, vr a192, vr a222, vd (FP.i2d p3), ss, vd am, ss, uu, uu, uu, uu] [(.double FP.dconst0), (.double am), (.ref a222), (.ref a272), (.ref a272)])) rfl (by rw [hml]; rfl) (Steps.refl _) (a := a272) (argsL := [(.ref a222), (.double am), (.double FP.dconst0)]) (rest := [(.ref a272)]) (lenOf pd_13 rfl) rfl (by show 2 * 0 + _ ≤ _; exact Nat.le_of_eq rfl) (hb hby at_119) (fun _ _ => ⟨rfl, e267, (by decide : 4 + 2 ≤ _), (by decide : 9 + 20 ≤ _)⟩)
    dsimp only [Pt.U, Pt.locs, Pt.cells, Pt.slots] at X292 l295 y296 z297 st298 hQ294 S299 G300
    subst y296 z297
    obtain ⟨X301, S302, hZ, hown⟩ := rebS S0 (Nat.le_trans F280 (Nat.le_of_eq (congrArg Array.size e267.symm))) X292 S299 G300 hZ hown
    clear X292 S299 G300
    obtain ⟨rfl, N303, K306, g307, g308, g309⟩ := hQ294
    have N310 : Fr n0 L289 := by rw [l295]; exact Fr.app N251 N303
    clear l295 N303
    have Z311 : n0 ≤ T288.heap.size := Nat.le_trans Z279 K306.1
    clear Z279
    have F312 : own_A Z T288.heap a192 .char [(.int (nar .char ((p4 &&& (255 : Int32)).toUInt32.toUInt16.toUInt32.toInt32)))] := F281.keep K306 (ninS n274 nin0)
    clear F281
    have F313 : xa12 Z T288.heap a222 := F282.keep K306
    clear F282
    have F314 : xa5 Z T288.heap a272 := A269.keep K306
    clear A269
    clear F283
    clear F284
    clear F285
    have F315 : own_Le T288.heap.size T288.heap := Nat.le_refl _
    have k316 : own_G p e below E0 T288 (mkF m 122 #[vi p0, vj p1, ss, vi p2, vi p3, vi p4, vr a192, vr a222, vd (FP.i2d p3), ss, vd am, ss, uu, uu, uu, uu] [(.ref a272)]) := fun tQ kk => k287 tQ (st298.trans kk)
    clear k287 st298
    have k317 : own_G p e below E0 T288 (mkF m 128 #[vi p0, vj p1, ss, vi p2, vi p3, vi p4, vr a192, vr a222, vd (FP.i2d p3), ss, vd am, ss, vr a272, uu, uu, uu] [(.double (FP.i2d p3)), (.ref a272)]) := by
      intro tQ kk
      refine k316 tQ ?_
      refine XS.astore X301.here hx rfl (hb hby at_122) rfl rfl (l' := #[vi p0, vj p1, ss, vi p2, vi p3, vi p4, vr a192, vr a222, vd (FP.i2d p3), ss, vd am, ss, vr a272, uu, uu, uu]) rfl ?_
      refine XS.aload X301.here hx rfl (hb hby at_124) rfl rfl ?_
      refine XS.dload X301.here hx rfl (hb hby at_126) rfl ?_
      exact kk
    clear k316
    obtain ⟨cq329, kq330, qa331, qb332, qc333⟩ := isOf hZ rfl F314
    obtain ⟨_, _, ⟨T318, L319, kc320, nc321⟩, -, X322, ⟨Lc323, hQ324, l325, y326, z327⟩, st328⟩ := X301.virtualBack hx (y := mn9) (z := mn9) hown (mvT hZ (tw56 hw)) (mvT hZ (tw57 hw)) (notFace_of_selects (args := #[]) (mvT hZ (tw59 hw))) (mvT hZ (tw59 hw)) (mvT hZ (tw58 hw)) (by decide) (backOf (W := 0) (rmA2 l Z a0 hw [] a272 (FP.i2d p3) am FP.dconst0 T288.heap n0 Z311 F314 g308 g309 own_n0 (Int.lt_irrefl _)) hZ (tw60 hw) (tw33 hw) (by decide) (by decide)) qa331 qc333 (g := (mkF m 128 #[vi p0, vj p1, ss, vi p2, vi p3, vi p4, vr a192, vr a222, vd (FP.i2d p3), ss, vd am, ss, vr a272, uu, uu, uu] [(.double (FP.i2d p3)), (.ref a272)])) rfl (by rw [hml]; rfl) (Steps.refl _) (argsL := [(.double (FP.i2d p3))]) (rest := []) (lenOf pd_14 rfl) rfl (by show 2 * 0 + _ ≤ _; exact Nat.le_of_eq rfl) (hb hby at_128) (fun _ _ => ⟨rfl, rfl, (by decide : 6 + 0 ≤ _), (by decide : 29 + 0 ≤ _)⟩)
    dsimp only [Pt.U, Pt.locs, Pt.cells, Pt.slots] at X322 l325 y326 z327 st328 hQ324
    subst y326 z327
    obtain ⟨rfl, N334, e335⟩ := hQ324
    have N337 : Fr n0 L319 := by rw [l325]; exact Fr.app N310 N334
    clear l325 N334
    have k338 : own_G p e below E0 T318 (mkF m 131 #[vi p0, vj p1, ss, vi p2, vi p3, vi p4, vr a192, vr a222, vd (FP.i2d p3), ss, vd am, ss, vr a272, uu, uu, uu] [(.double am)]) := fun tQ kk => k317 tQ (st328.trans kk)
    clear k317 st328
    have k339 : own_G p e below E0 T318 (mkF m 142 #[vi p0, vj p1, ss, vi p2, vi p3, vi p4, vr a192, vr a222, vd (FP.i2d p3), ss, vd am, ss, vr a272, uu, uu, uu] [(.int (1 : Int32))]) := by
      intro tQ kk
      refine k338 tQ ?_
      refine XS.dload X322.here hx rfl (hb hby at_131) rfl ?_
      refine XS.dcmpS (v := (0 : Int32)) X322.here hx rfl (hb hby at_133) rfl (own_eqz .l (own_amf ham).noNaN (own_amf ham).noNaN rfl) ?_
      refine XS.ifNo X322.here hx rfl (hb hby at_134) rfl (own_if_neN (by decide)) ?_
      refine XS.iconst X322.here hx rfl (hb hby at_137) ?_
      show Steps p.tables e below (T318.setTop (mkF m 138 #[vi p0, vj p1, ss, vi p2, vi p3, vi p4, vr a192, vr a222, vd (FP.i2d p3), ss, vd am, ss, vr a272, uu, uu, uu] [(.int (1 : Int32))])) tQ
      refine XS.goto X322.here hx rfl (pc0 := 138) (pc' := 142) rfl (hb hby at_138) (by decide) (by decide) ?_
      exact kk
    clear k338
    obtain ⟨fs, hr, hrun, hended, hRW⟩ := X322.leaveW S302 (Nat.le_trans F315 (Nat.le_of_eq (congrArg Array.size e335.symm))) (v := some (.int (1 : Int32))) (fun h => by rw [Bd.returns] at h; cases h)
    have hrun0 := k339 _ (retOut X322 hx Bd.returns (t := .boolean) rfl (Or.inl ⟨rfl, Or.inr (Or.inl rfl), _, rfl⟩) (hb hby at_142) hr)
    subst hE0
    refine ⟨_, _, hrun0, hrun, hended, _, _, rfl, ?_, ⟨_, rfl⟩, hRW.2.1, hRW.2.2.1, hRW.2.2.2.mono (by decide) (by decide)⟩
    show Qrm0 Z p0 p1 p2 p3 p4 G1 h0 n0 _ T318.heap _
    rw [e335]
    exact ⟨rfl, N337⟩
  · skip
    have k340 : own_G p e below E0 T238 (mkF m 49 #[vi p0, vj p1, ss, vi p2, vi p3, vi p4, vr a192, vr a222, vd (FP.i2d p3), ss, vi ((p2 &&& (7 : Int32)) + (1 : Int32)), uu, uu, uu, uu, uu] [(.double (FP.i2d ((p2 &&& (7 : Int32)) + (1 : Int32))))]) := by
      intro tQ kk
      refine k257 tQ ?_
      refine XS.ifNo X242.here hx rfl (hb hby at_35) rfl (own_if_eqN c258) ?_
      refine XS.iloadN X242.here hx rfl (hb hby at_38) rfl ?_
      refine XS.bipush X242.here hx rfl (hb hby at_39) ?_
      refine XS.iand X242.here hx rfl (hb hby at_41) rfl ?_
      show Steps p.tables e below (T238.setTop (mkF m 42 #[vi p0, vj p1, ss, vi p2, vi p3, vi p4, vr a192, vr a222, vd (FP.i2d p3), ss, uu, uu, uu, uu, uu, uu] [(.int (p2 &&& (7 : Int32)))])) tQ
      refine XS.iconst X242.here hx rfl (hb hby at_42) ?_
      refine XS.iadd X242.here hx rfl (hb hby at_43) rfl ?_
      refine XS.istore X242.here hx rfl (hb hby at_44) rfl (l' := #[vi p0, vj p1, ss, vi p2, vi p3, vi p4, vr a192, vr a222, vd (FP.i2d p3), ss, vi ((p2 &&& (7 : Int32)) + (1 : Int32)), uu, uu, uu, uu, uu]) rfl ?_
      refine XS.iload X242.here hx rfl (hb hby at_46) rfl ?_
      show Steps p.tables e below (T238.setTop (mkF m 48 #[vi p0, vj p1, ss, vi p2, vi p3, vi p4, vr a192, vr a222, vd (FP.i2d p3), ss, vi ((p2 &&& (7 : Int32)) + (1 : Int32)), uu, uu, uu, uu, uu] [(.int ((p2 &&& (7 : Int32)) + (1 : Int32)))])) tQ
      refine XS.i2dS X242.here hx rfl (hb hby at_48) rfl rfl ?_
      exact kk
    clear k257
    have st341 := X242.ldc2DoubleC hx hown (mvT hZ (tw61 hw)) (g := (mkF m 49 #[vi p0, vj p1, ss, vi p2, vi p3, vi p4, vr a192, vr a222, vd (FP.i2d p3), ss, vi ((p2 &&& (7 : Int32)) + (1 : Int32)), uu, uu, uu, uu, uu] [(.double (FP.i2d ((p2 &&& (7 : Int32)) + (1 : Int32))))])) rfl (hb hby at_49)
    have k342 : own_G p e below E0 T238 (mkF m 52 #[vi p0, vj p1, ss, vi p2, vi p3, vi p4, vr a192, vr a222, vd (FP.i2d p3), ss, vi ((p2 &&& (7 : Int32)) + (1 : Int32)), uu, uu, uu, uu, uu] [(.double (4620693217682128896 : UInt64)), (.double (FP.i2d ((p2 &&& (7 : Int32)) + (1 : Int32))))]) := fun tQ kk => k340 tQ (st341 _ kk)
    clear k340 st341
    obtain ⟨sh, hsh⟩ : ∃ vA, FP.ddiv (FP.i2d ((p2 &&& (7 : Int32)) + (1 : Int32))) (4620693217682128896 : UInt64) = vA := ⟨_, rfl⟩
    have k343 : own_G p e below E0 T238 (mkF m 55 #[vi p0, vj p1, ss, vi p2, vi p3, vi p4, vr a192, vr a222, vd (FP.i2d p3), ss, vi ((p2 &&& (7 : Int32)) + (1 : Int32)), vd sh, ss, uu, uu, uu] []) := by
      intro tQ kk
      refine k342 tQ ?_
      refine XS.ddivS X242.here hx rfl (hb hby at_52) rfl (own_shn p2) hsh ?_
      refine XS.dstore X242.here hx rfl (hb hby at_53) rfl (l' := #[vi p0, vj p1, ss, vi p2, vi p3, vi p4, vr a192, vr a222, vd (FP.i2d p3), ss, vi ((p2 &&& (7 : Int32)) + (1 : Int32)), vd sh, ss, uu, uu, uu]) rfl ?_
      exact kk
    clear k342
    obtain ⟨T344, h345, X346, e347, E348, A349, D350, -, st351⟩ := newO X242 hx hZ hown (tw31 hw) (tw32 hw) (tw33 hw) rfl (g := (mkF m 55 #[vi p0, vj p1, ss, vi p2, vi p3, vi p4, vr a192, vr a222, vd (FP.i2d p3), ss, vi ((p2 &&& (7 : Int32)) + (1 : Int32)), vd sh, ss, uu, uu, uu] [])) rfl (hb hby at_55) (by decide) (by decide)
    obtain ⟨a352, g353⟩ : ∃ zA : Nat, zA = T238.heap.size := ⟨_, rfl⟩
    rw [← g353] at A349 D350 st351
    have n354 : a192 ≠ a352 := own_lt_ne F254.lt g353
    have n355 : a352 ≠ a192 := fun q => n354 q.symm
    have n356 : a222 ≠ a352 := own_lt_ne F255.lt g353
    have n357 : a352 ≠ a222 := fun q => n356 q.symm
    have ge358 : n0 ≤ a352 := own_ge_of Z252 g353
    have Z359 : n0 ≤ h345.size := Nat.le_trans Z252 E348.1
    clear Z252
    have F360 : own_Le 0 h345 := F253.ext E348
    clear F253
    have F361 : own_A Z h345 a192 .char [(.int (nar .char ((p4 &&& (255 : Int32)).toUInt32.toUInt16.toUInt32.toInt32)))] := F254.ext E348
    clear F254
    have F362 : xa12 Z h345 a222 := F255.ext E348
    clear F255
    have F363 : Fld Z h345 a352 "com/example/capwright/capwright/statement/OperatingStatement$Expense" "name" "Ljava/lang/String;" .null := (D350 (Or.inr (tw51 hw)) (ty := (.object "java/lang/String")) (by decide))
    have F364 : Fld Z h345 a352 "com/example/capwright/capwright/statement/OperatingStatement$Expense" "amount" "D" (.double (0 : UInt64)) := (D350 (Or.inr (tw53 hw)) (ty := .double) (by decide))
    have F365 : Fld Z h345 a352 "com/example/capwright/capwright/statement/OperatingStatement$Expense" "shareOfEgi" "D" (.double (0 : UInt64)) := (D350 (Or.inr (tw55 hw)) (ty := .double) (by decide))
    have k366 : own_G p e below E0 T344 (mkF m 58 #[vi p0, vj p1, ss, vi p2, vi p3, vi p4, vr a192, vr a222, vd (FP.i2d p3), ss, vi ((p2 &&& (7 : Int32)) + (1 : Int32)), vd sh, ss, uu, uu, uu] [(.ref a352)]) := fun tQ kk => k343 tQ (st351 _ kk)
    clear k343 st351
    have k367 : own_G p e below E0 T344 (mkF m 64 #[vi p0, vj p1, ss, vi p2, vi p3, vi p4, vr a192, vr a222, vd (FP.i2d p3), ss, vi ((p2 &&& (7 : Int32)) + (1 : Int32)), vd sh, ss, uu, uu, uu] [(.double sh), (.double FP.dconst0), (.ref a222), (.ref a352), (.ref a352)]) := by
      intro tQ kk
      refine k366 tQ ?_
      refine XS.dup X346.here hx rfl (hb hby at_58) rfl rfl ?_
      refine XS.aload X346.here hx rfl (hb hby at_59) rfl rfl ?_
      refine XS.dconst0 X346.here hx rfl (hb hby at_61) rfl ?_
      refine XS.dload X346.here hx rfl (hb hby at_62) rfl ?_
      exact kk
    clear k366
    obtain ⟨_, _, ⟨T368, L369, kc370, nc371⟩, -, X372, S379, G380, ⟨Lc373, hQ374, l375, y376, z377⟩, st378⟩ := X346.specialBackS hx (y := mn6) rfl hown (mvT hZ (tw34 hw)) (mvT hZ (tw35 hw)) (mvT hZ (tw36 hw)) (by decide) (backOfS (W := 1) (rmI l Z a0 hw [] a352 a222 FP.dconst0 sh h345 n0 Z359 A349 F363 F364 F365 ge358 own_n0 (own_shf hsh).noNaN (Int.lt_irrefl _) (own_sh0 hsh).1 (own_sh0 hsh).2 (fun q => absurd q (Int.lt_irrefl _))) hZ (tw36 hw) (tw33 hw) (by decide) (by decide)) (g := (mkF m 64 #[vi p0, vj p1, ss, vi p2, vi p3, vi p4, vr a192, vr a222, vd (FP.i2d p3), ss, vi ((p2 &&& (7 : Int32)) + (1 : Int32)), vd sh, ss, uu, uu, uu] [(.double sh), (.double FP.dconst0), (.ref a222), (.ref a352), (.ref a352)])) rfl (by rw [hml]; rfl) (Steps.refl _) (a := a352) (argsL := [(.ref a222), (.double FP.dconst0), (.double sh)]) (rest := [(.ref a352)]) (lenOf pd_13 rfl) rfl (by show 2 * 0 + _ ≤ _; exact Nat.le_of_eq rfl) (hb hby at_64) (fun _ _ => ⟨rfl, e347, (by decide : 4 + 2 ≤ _), (by decide : 9 + 20 ≤ _)⟩)
    dsimp only [Pt.U, Pt.locs, Pt.cells, Pt.slots] at X372 l375 y376 z377 st378 hQ374 S379 G380
    subst y376 z377
    obtain ⟨X381, S382, hZ, hown⟩ := rebS S0 (Nat.le_trans F360 (Nat.le_of_eq (congrArg Array.size e347.symm))) X372 S379 G380 hZ hown
    clear X372 S379 G380
    obtain ⟨rfl, N383, K386, g387, g388, g389⟩ := hQ374
    have N390 : Fr n0 L369 := by rw [l375]; exact Fr.app N251 N383
    clear l375 N383
    have Z391 : n0 ≤ T368.heap.size := Nat.le_trans Z359 K386.1
    clear Z359
    have F392 : own_A Z T368.heap a192 .char [(.int (nar .char ((p4 &&& (255 : Int32)).toUInt32.toUInt16.toUInt32.toInt32)))] := F361.keep K386 (ninS n354 nin0)
    clear F361
    have F393 : xa12 Z T368.heap a222 := F362.keep K386
    clear F362
    have F394 : xa5 Z T368.heap a352 := A349.keep K386
    clear A349
    clear F363
    clear F364
    clear F365
    have F395 : own_Le T368.heap.size T368.heap := Nat.le_refl _
    have k396 : own_G p e below E0 T368 (mkF m 67 #[vi p0, vj p1, ss, vi p2, vi p3, vi p4, vr a192, vr a222, vd (FP.i2d p3), ss, vi ((p2 &&& (7 : Int32)) + (1 : Int32)), vd sh, ss, uu, uu, uu] [(.ref a352)]) := fun tQ kk => k367 tQ (st378.trans kk)
    clear k367 st378
    have k397 : own_G p e below E0 T368 (mkF m 77 #[vi p0, vj p1, ss, vi p2, vi p3, vi p4, vr a192, vr a222, vd (FP.i2d p3), ss, vi ((p2 &&& (7 : Int32)) + (1 : Int32)), vd sh, ss, vr a352, uu, uu] [(.double (FP.l2d ((p3.toInt64) * (((p2 &&& (7 : Int32)) + (1 : Int32)).toInt64))))]) := by
      intro tQ kk
      refine k396 tQ ?_
      refine XS.astore X381.here hx rfl (hb hby at_67) rfl rfl (l' := #[vi p0, vj p1, ss, vi p2, vi p3, vi p4, vr a192, vr a222, vd (FP.i2d p3), ss, vi ((p2 &&& (7 : Int32)) + (1 : Int32)), vd sh, ss, vr a352, uu, uu]) rfl ?_
      refine XS.iload X381.here hx rfl (hb hby at_69) rfl ?_
      refine XT.i2l X381.here hx rfl (hb hby at_71) rfl ?_
      refine XS.iload X381.here hx rfl (hb hby at_72) rfl ?_
      show Steps p.tables e below (T368.setTop (mkF m 74 #[vi p0, vj p1, ss, vi p2, vi p3, vi p4, vr a192, vr a222, vd (FP.i2d p3), ss, vi ((p2 &&& (7 : Int32)) + (1 : Int32)), vd sh, ss, vr a352, uu, uu] [(.int ((p2 &&& (7 : Int32)) + (1 : Int32))), (.long (p3.toInt64))])) tQ
      refine XT.i2l X381.here hx rfl (hb hby at_74) rfl ?_
      refine XT.lmul X381.here hx rfl (hb hby at_75) rfl ?_
      refine XS.l2dS X381.here hx rfl (hb hby at_76) rfl rfl ?_
      exact kk
    clear k396
    have st398 := X381.ldc2DoubleC hx hown (mvT hZ (tw61 hw)) (g := (mkF m 77 #[vi p0, vj p1, ss, vi p2, vi p3, vi p4, vr a192, vr a222, vd (FP.i2d p3), ss, vi ((p2 &&& (7 : Int32)) + (1 : Int32)), vd sh, ss, vr a352, uu, uu] [(.double (FP.l2d ((p3.toInt64) * (((p2 &&& (7 : Int32)) + (1 : Int32)).toInt64))))])) rfl (hb hby at_77)
    have k399 : own_G p e below E0 T368 (mkF m 80 #[vi p0, vj p1, ss, vi p2, vi p3, vi p4, vr a192, vr a222, vd (FP.i2d p3), ss, vi ((p2 &&& (7 : Int32)) + (1 : Int32)), vd sh, ss, vr a352, uu, uu] [(.double (4620693217682128896 : UInt64)), (.double (FP.l2d ((p3.toInt64) * (((p2 &&& (7 : Int32)) + (1 : Int32)).toInt64))))]) := fun tQ kk => k397 tQ (st398 _ kk)
    clear k397 st398
    obtain ⟨ex, hex⟩ : ∃ vA, FP.ddiv (FP.l2d ((p3.toInt64) * (((p2 &&& (7 : Int32)) + (1 : Int32)).toInt64))) (4620693217682128896 : UInt64) = vA := ⟨_, rfl⟩
    have k400 : own_G p e below E0 T368 (mkF m 87 #[vi p0, vj p1, ss, vi p2, vi p3, vi p4, vr a192, vr a222, vd (FP.i2d p3), ss, vi ((p2 &&& (7 : Int32)) + (1 : Int32)), vd sh, ss, vr a352, vd ex, ss] [(.double (FP.i2d p3)), (.ref a352)]) := by
      intro tQ kk
      refine k399 tQ ?_
      refine XS.ddivS X381.here hx rfl (hb hby at_80) rfl (own_exn2 _) hex ?_
      refine XS.dstore X381.here hx rfl (hb hby at_81) rfl (l' := #[vi p0, vj p1, ss, vi p2, vi p3, vi p4, vr a192, vr a222, vd (FP.i2d p3), ss, vi ((p2 &&& (7 : Int32)) + (1 : Int32)), vd sh, ss, vr a352, vd ex, ss]) rfl ?_
      refine XS.aload X381.here hx rfl (hb hby at_83) rfl rfl ?_
      refine XS.dload X381.here hx rfl (hb hby at_85) rfl ?_
      exact kk
    clear k399
    obtain ⟨cq412, kq413, qa414, qb415, qc416⟩ := isOf hZ rfl F394
    obtain ⟨_, _, ⟨T401, L402, kc403, nc404⟩, -, X405, ⟨Lc406, hQ407, l408, y409, z410⟩, st411⟩ := X381.virtualBack hx (y := mn9) (z := mn9) hown (mvT hZ (tw56 hw)) (mvT hZ (tw57 hw)) (notFace_of_selects (args := #[]) (mvT hZ (tw59 hw))) (mvT hZ (tw59 hw)) (mvT hZ (tw58 hw)) (by decide) (backOf (W := 0) (rmA1 l Z a0 hw [] a352 (FP.i2d p3) FP.dconst0 sh T368.heap n0 Z391 F394 g388 g389 (own_shf hsh).noNaN (own_shp hsh) (own_mul_nn (own_shf hsh) (Fl.i2d_fin p3))) hZ (tw60 hw) (tw33 hw) (by decide) (by decide)) qa414 qc416 (g := (mkF m 87 #[vi p0, vj p1, ss, vi p2, vi p3, vi p4, vr a192, vr a222, vd (FP.i2d p3), ss, vi ((p2 &&& (7 : Int32)) + (1 : Int32)), vd sh, ss, vr a352, vd ex, ss] [(.double (FP.i2d p3)), (.ref a352)])) rfl (by rw [hml]; rfl) (Steps.refl _) (argsL := [(.double (FP.i2d p3))]) (rest := []) (lenOf pd_14 rfl) rfl (by show 2 * 0 + _ ≤ _; exact Nat.le_of_eq rfl) (hb hby at_87) (fun _ _ => ⟨rfl, rfl, (by decide : 6 + 0 ≤ _), (by decide : 29 + 0 ≤ _)⟩)
    dsimp only [Pt.U, Pt.locs, Pt.cells, Pt.slots] at X405 l408 y409 z410 st411 hQ407
    subst y409 z410
    obtain ⟨rfl, N417, e418⟩ := hQ407
    have N420 : Fr n0 L402 := by rw [l408]; exact Fr.app N390 N417
    clear l408 N417
    have k421 : own_G p e below E0 T401 (mkF m 90 #[vi p0, vj p1, ss, vi p2, vi p3, vi p4, vr a192, vr a222, vd (FP.i2d p3), ss, vi ((p2 &&& (7 : Int32)) + (1 : Int32)), vd sh, ss, vr a352, vd ex, ss] [(.double (FP.dmul sh (FP.i2d p3)))]) := fun tQ kk => k400 tQ (st411.trans kk)
    clear k400 st411
    have k422 : own_G p e below E0 T401 (mkF m 101 #[vi p0, vj p1, ss, vi p2, vi p3, vi p4, vr a192, vr a222, vd (FP.i2d p3), ss, vi ((p2 &&& (7 : Int32)) + (1 : Int32)), vd sh, ss, vr a352, vd ex, ss] [(.int (1 : Int32))]) := by
      intro tQ kk
      refine k421 tQ ?_
      refine XS.dload X405.here hx rfl (hb hby at_90) rfl ?_
      refine XS.dcmpS (v := (0 : Int32)) X405.here hx rfl (hb hby at_92) rfl (own_fin405 hsh hex) ?_
      refine XS.ifNo X405.here hx rfl (hb hby at_93) rfl (own_if_neN (by decide)) ?_
      refine XS.iconst X405.here hx rfl (hb hby at_96) ?_
      show Steps p.tables e below (T401.setTop (mkF m 97 #[vi p0, vj p1, ss, vi p2, vi p3, vi p4, vr a192, vr a222, vd (FP.i2d p3), ss, vi ((p2 &&& (7 : Int32)) + (1 : Int32)), vd sh, ss, vr a352, vd ex, ss] [(.int (1 : Int32))])) tQ
      refine XS.goto X405.here hx rfl (pc0 := 97) (pc' := 101) rfl (hb hby at_97) (by decide) (by decide) ?_
      exact kk
    clear k421
    obtain ⟨fs, hr, hrun, hended, hRW⟩ := X405.leaveW S382 (Nat.le_trans F395 (Nat.le_of_eq (congrArg Array.size e418.symm))) (v := some (.int (1 : Int32))) (fun h => by rw [Bd.returns] at h; cases h)
    have hrun0 := k422 _ (retOut X405 hx Bd.returns (t := .boolean) rfl (Or.inl ⟨rfl, Or.inr (Or.inl rfl), _, rfl⟩) (hb hby at_101) hr)
    subst hE0
    refine ⟨_, _, hrun0, hrun, hended, _, _, rfl, ?_, ⟨_, rfl⟩, hRW.2.1, hRW.2.2.1, hRW.2.2.2.mono (by decide) (by decide)⟩
    show Qrm0 Z p0 p1 p2 p3 p4 G1 h0 n0 _ T401.heap _
    rw [e418]
    exact ⟨rfl, N420⟩
set_option maxRecDepth 65536 in
set_option maxHeartbeats 40000000 in
theorem comes_1 {Post : Tables → Env → Array Value → State → Outcome → State → Prop} (hpost : ∀ tb e args s v u, (limb_1_1.after args s (.returned v) u = true ∧ limb_1_2.after args s (.returned v) u = true ∧ True) → ReturnedEndW s (.returned v) u (Jvm.fieldLocs frame_1_writes args s ++ Jvm.arrayLocs frame_1_arrays args s ++ Jvm.staticLocs frame_1_statics s) 24 1152 → Post tb e args s (.returned v) u) :
    ArmFor flags0 classFile x code maxLocals ret World_1 tables_1 room_1 Calls_1 rest_1 Pre_1 Post := by
  intro l hfl _ _ p e ha hc hk s m args below hf hA hF happ hP
  obtain ⟨hcalls, hrest, hpre⟩ := hP
  obtain ⟨-, -, -, hnamed, -, -, -, hat⟩ := (Spec.applies_iff hf).mp happ
  obtain ⟨hg, hn⟩ := and_e (Cond.before_iff.mp (show (Jvm.Cond.and given_1 narrow_1).before args s = true from hpre))
  obtain ⟨hct, hr0⟩ := and_e hg
  obtain ⟨ha0, hr1⟩ := and_e hr0
  obtain ⟨ha1, hr2⟩ := and_e hr1
  obtain ⟨ha2, hr3⟩ := and_e hr2
  obtain ⟨ha3, hr4⟩ := and_e hr3
  obtain ⟨w0, w1, w2, w3, w4, rfl⟩ : ∃ w0 w1 w2 w3 w4 : Value, args = #[w0, w1, w2, w3, w4] := by
    have hs : args.size = 5 := by simpa [Cond.value, given_1] using hct
    obtain ⟨L⟩ := args
    match L, hs with
    | [w0, w1, w2, w3, w4], _ => exact ⟨w0, w1, w2, w3, w4, rfl⟩
  have hw := fun d (hd : d ∈ tables_1) => atoms_spec (ws := Jvm.Cond.code x code maxLocals ret :: tables_1) hat d (List.mem_cons_of_mem _ hd)
  obtain ⟨hsets, hown0⟩ := atoms_of _ (rest_1_c_eq ▸ (show rest_1_c.before _ s = true from hrest))
  have hfit : Fit s := fun {y c} hc i hi => by
    obtain ⟨ha, rfl⟩ := Array.getElem?_eq_some_iff.mp hc
    have q := List.all_eq_true.mp ((Array.all_eq_true_iff_forall_mem.mp hF) _ (Array.getElem_mem ha)) i (List.mem_range.mpr hi)
    simpa [Array.getElem?_eq_getElem hi] using q
  obtain ⟨i0, ev0⟩ := is_v ha0
  obtain rfl : w0 = (.int i0) := Option.some.inj ev0
  obtain ⟨i1, ev1⟩ := isL_v ha1
  obtain rfl : w1 = (.long i1) := Option.some.inj ev1
  obtain ⟨i2, ev2⟩ := is_v ha2
  obtain rfl : w2 = (.int i2) := Option.some.inj ev2
  obtain ⟨i3, ev3⟩ := is_v ha3
  obtain rfl : w3 = (.int i3) := Option.some.inj ev3
  obtain ⟨i4, ev4⟩ := is_v hr4
  obtain rfl : w4 = (.int i4) := Option.some.inj ev4
  have nC := not_v (Cond.before_iff.mp (hsets _ (List.mem_of_getElem? (i := 2) rfl)))
  obtain ⟨iC, eC⟩ := is_v (Cond.before_iff.mp (hsets _ (List.mem_of_getElem? (i := 1) rfl)))
  have SC : Sta s s.heap "java/lang/String" "COMPACT_STRINGS" "Z" (.int iC) := Sta.start eC (Or.inl (hsets _ (List.mem_of_getElem? (i := 0) rfl)))
  have cC : ¬ (iC = (0 : Int32)) := gotF (Cond.eq_ints eC (Term.int_eval (0))) nC
  obtain ⟨n, o, h1, h2, h3, _, L, rfl, ⟨rfl, N⟩, hq⟩ := rm0 l s _ hw tables_1 i0 i1 i2 i3 i4 iC s.heap s.heap.size (Nat.le_refl _) SC cC p e ha hc hk s m _ below hf ((Spec.applies_iff_loose hf).mp happ).1 ⟨rfl, State.Warmed39.refl s, rfl⟩ trivial
  refine ⟨n, _, h1, h2, h3, hpost _ _ _ _ _ _ ⟨Cond.after_iff.mpr rfl, Cond.after_iff.mpr (eq_i res_at (Term.int_eval (1)) rfl), trivial⟩ ⟨hq.1, hq.2.1, hq.2.2.1, (hq.2.2.2.sift fun y hy => Or.inr (N y hy)).mono (by decide) (by decide)⟩⟩
theorem main_1_1 : Claimed_1_1 := comes_1 fun _ _ _ _ _ _ h hF => ⟨h.1, hF⟩
theorem main_1_2 : Claimed_1_2 := comes_1 fun _ _ _ _ _ _ h hF => ⟨h.2.1, hF⟩
end Jvm.Pilot.@@N@@
namespace Jvm.Pilot.@@N@@
open Jvm Jvm.ClassFile Sem Op Lib Jvm.Free Jvm.Stand Jvm.Pilot.@@N@@.Jvm.D
/-! MADE BY PROGRAM (witnessworld.py) out of the Statement's table words and the real class files: 20 classes; the members and pool entries that the words name. The judged class is class 1, her method 1. -/
namespace start1
open Jvm.ClassFile
def u (s : String) : CpInfo := .utf8 (stringToUtf16 s)
/-- a pool by its gaps: so many unusable entries, then the entry; so many at the end -/
def gap : Nat → List CpInfo → List CpInfo
  | 0, r => r
  | n + 1, r => .unusable :: gap n r
def poolList (es : List (Nat × CpInfo)) (last : Nat) : List CpInfo := es.foldr (fun e r => gap e.1 (e.2 :: r)) (gap last [])
def pool (es : List (Nat × CpInfo)) (last : Nat) : Array CpInfo := ⟨poolList es last⟩
def fileOf (pool : Array CpInfo) (this : Nat) (attrs : Array Attribute := #[]) (ms : Array MethodInfo := #[]) (fl : Nat := 33) (sup : Nat := 0) (ifs : Array Nat := #[]) (fds : Array FieldInfo := #[]) : ClassFile where
  minorVersion := 0
  majorVersion := 65
  constantPool := pool
  accessFlags := fl
  thisClass := this
  superClass := sup
  interfaces := ifs
  fields := fds
  methods := ms
  attributes := attrs
def plain (name : String) (sup : Option ClassId) : Class where
  name := name
  kind := .ordinary
  loader := none
  accessFlags := 33
  super := sup
  interfaces := #[]
  cf := none
  fields := #[]
  methods := #[]
  instanceTypes := #[]
  staticTypes := #[]
  resolved := #[]
  callSites := []
  init := .initialized
  statics := none
  mirror := none

def pool0 : Array CpInfo := pool [(5, u "<init>"), (0, u "()V"), (1, .class_ 10), (1, u "java/lang/Object")] 113

def k0c0 : Code := { maxStack := 0, maxLocals := 1, code := object_method_1_code, exceptionTable := #[], attributes := #[] }
def k0m0 : Method := { name := "<init>", desc := "()V", sig := { parameters := [], returnType := none }, accessFlags := 1, code := some k0c0 }
/-- java/lang/Object -/
def k0 : Class := { plain "java/lang/Object" none with
  accessFlags := 33
  interfaces := #[]
  cf := some (fileOf pool0 8 #[] #[{ accessFlags := 1, nameIndex := 5, descriptorIndex := 6, attributes := #[] }] 33 0 #[] #[])
  fields := #[]
  methods := #[k0m0]
  instanceTypes := #[]
  staticTypes := #[]
  resolved := Array.replicate 124 none
  statics := none }

def pool1 : Array CpInfo := pool [(2, .class_ 4), (1, u "java/lang/Object"), (0, u "<init>"), (0, u "()V"), (0, .class_ 8), (0, u "java/lang/String"), (0, .methodref 7 10), (0, .nameAndType 5 11), (0, u "([C)V"), (0, .double 4620693217682128896), (1, .class_ 15), (0, u "com/example/capwright/capwright/statement/OperatingStatement$Expense"), (0, .methodref 14 17), (0, .nameAndType 5 18), (0, u "(Ljava/lang/String;DD)V"), (0, .methodref 14 20), (0, .nameAndType 21 22), (0, u "amountAt"), (0, u "(D)D"), (0, .long 9223372036854775807), (1, .class_ 26), (0, u "com/example/capwright/capwright/statement/ExpenseAmountAtPinLaw"), (2, u "law"), (0, u "(IJIII)Z")] 9

def k1m0 : Method := { name := "<init>", desc := "()V", sig := { parameters := [], returnType := none }, accessFlags := 1, code := none }
def k1c1 : Code := { maxStack := 7, maxLocals := 16, code := code, exceptionTable := #[], attributes := #[] }
def k1m1 : Method := { name := "law", desc := "(IJIII)Z", sig := { parameters := [.int, .long, .int, .int, .int], returnType := some .boolean }, accessFlags := 9, code := some k1c1 }
/-- com/example/capwright/capwright/statement/ExpenseAmountAtPinLaw -/
def k1 : Class := { plain "com/example/capwright/capwright/statement/ExpenseAmountAtPinLaw" (some 0) with
  accessFlags := 49
  interfaces := #[]
  cf := some (fileOf pool1 25 #[] #[{ accessFlags := 1, nameIndex := 5, descriptorIndex := 6, attributes := #[] }, { accessFlags := 9, nameIndex := 29, descriptorIndex := 30, attributes := #[] }] 49 2 #[] #[])
  fields := #[]
  methods := #[k1m0, k1m1]
  instanceTypes := #[]
  staticTypes := #[]
  resolved := Array.replicate 40 none
  statics := none }

def pool2 : Array CpInfo := pool [(1, .class_ 2), (0, u "java/io/Serializable"), (0, .class_ 4), (0, u "java/lang/Object")] 2

/-- java/io/Serializable -/
def k2 : Class := { plain "java/io/Serializable" (some 0) with
  accessFlags := 1537
  interfaces := #[]
  cf := some (fileOf pool2 1 #[] #[] 1537 3 #[] #[])
  fields := #[]
  methods := #[]
  instanceTypes := #[]
  staticTypes := #[]
  resolved := Array.replicate 7 none
  statics := none }

def pool3 : Array CpInfo := pool [(1, .class_ 2), (0, u "java/lang/Comparable"), (0, .class_ 4), (0, u "java/lang/Object")] 7

/-- java/lang/Comparable -/
def k3 : Class := { plain "java/lang/Comparable" (some 0) with
  accessFlags := 1537
  interfaces := #[]
  cf := some (fileOf pool3 1 #[] #[] 1537 3 #[] #[])
  fields := #[]
  methods := #[]
  instanceTypes := #[]
  staticTypes := #[]
  resolved := Array.replicate 12 none
  statics := none }

def pool4 : Array CpInfo := pool [(2, .class_ 4), (1, u "java/lang/CharSequence"), (42, .class_ 48), (0, u "java/lang/CharSequence$1CodePointIterator"), (10, .class_ 60), (0, u "java/lang/CharSequence$1CharIterator"), (5, .class_ 67), (0, u "java/lang/Object")] 63

/-- java/lang/CharSequence -/
def k4 : Class := { plain "java/lang/CharSequence" (some 0) with
  accessFlags := 1537
  interfaces := #[]
  cf := some (fileOf pool4 2 #[.nestMembers #[47, 59]] #[] 1537 66 #[] #[])
  fields := #[]
  methods := #[]
  instanceTypes := #[]
  staticTypes := #[]
  resolved := Array.replicate 131 none
  statics := none }

def pool5 : Array CpInfo := pool [(1, .class_ 2), (0, u "java/lang/constant/Constable"), (0, .class_ 4), (0, u "java/lang/Object")] 6

/-- java/lang/constant/Constable -/
def k5 : Class := { plain "java/lang/constant/Constable" (some 0) with
  accessFlags := 1537
  interfaces := #[]
  cf := some (fileOf pool5 1 #[] #[] 1537 3 #[] #[])
  fields := #[]
  methods := #[]
  instanceTypes := #[]
  staticTypes := #[]
  resolved := Array.replicate 11 none
  statics := none }

def pool6 : Array CpInfo := pool [(1, .class_ 2), (0, u "java/lang/constant/ConstantDesc"), (0, .class_ 4), (0, u "java/lang/Object")] 32

/-- java/lang/constant/ConstantDesc -/
def k6 : Class := { plain "java/lang/constant/ConstantDesc" (some 0) with
  accessFlags := 1537
  interfaces := #[]
  cf := some (fileOf pool6 1 #[] #[] 1537 3 #[] #[])
  fields := #[]
  methods := #[]
  instanceTypes := #[]
  staticTypes := #[]
  resolved := Array.replicate 37 none
  statics := none }

def pool7 : Array CpInfo := pool [(1, .methodref 2 3), (0, .class_ 4), (0, .nameAndType 5 6), (0, u "java/lang/Object"), (0, u "<init>"), (0, u "()V"), (2, .fieldref 10 11), (0, .class_ 12), (0, .nameAndType 13 14), (0, u "java/lang/String"), (0, u "value"), (0, u "[B"), (0, .fieldref 10 16), (0, .nameAndType 17 18), (0, u "coder"), (0, u "B"), (2, u "hash"), (0, u "I"), (2, u "hashIsZero"), (0, u "Z"), (0, .methodref 10 28), (0, .nameAndType 5 29), (0, u "([CIILjava/lang/Void;)V"), (8, .fieldref 10 39), (0, .nameAndType 40 26), (0, u "COMPACT_STRINGS"), (1, .class_ 44), (1, u "java/lang/StringUTF16"), (0, u "compress"), (1, .methodref 42 48), (0, .nameAndType 49 50), (0, u "coderFromArrayLen"), (0, u "([BI)B"), (126, .methodref 42 178), (0, .nameAndType 45 179), (0, u "([CII)[B"), (395, .class_ 576), (0, u "java/lang/CharSequence"), (22, u "CASE_INSENSITIVE_ORDER"), (0, u "Ljava/util/Comparator;"), (409, u "([C)V"), (90, u "serialPersistentFields"), (0, u "[Ljava/io/ObjectStreamField;"), (0, .class_ 1104), (0, u "java/lang/String$CaseInsensitiveComparator"), (1, .class_ 1107), (0, u "java/io/Serializable"), (0, .class_ 1109), (0, u "java/lang/Comparable"), (0, .class_ 1111), (0, u "java/lang/constant/Constable"), (0, .class_ 1113), (0, u "java/lang/constant/ConstantDesc"), (2, u "serialVersionUID"), (0, u "J"), (3, u "REPL"), (0, u "C"), (2, u "LATIN1"), (1, u "UTF16")] 323

def k7m0 : Method := { name := "<init>", desc := "()V", sig := { parameters := [], returnType := none }, accessFlags := 1, code := none }
def k7c1 : Code := { maxStack := 5, maxLocals := 2, code := jdk_42_method_3_code, exceptionTable := #[], attributes := #[] }
def k7m1 : Method := { name := "<init>", desc := "([C)V", sig := { parameters := [(.array .char)], returnType := none }, accessFlags := 1, code := some k7c1 }
def k7c2 : Code := { maxStack := 4, maxLocals := 6, code := jdk_42_method_149_code, exceptionTable := #[], attributes := #[] }
def k7m2 : Method := { name := "<init>", desc := "([CIILjava/lang/Void;)V", sig := { parameters := [(.array .char), .int, .int, (.object "java/lang/Void")], returnType := none }, accessFlags := 2, code := some k7c2 }
/-- java/lang/String -/
def k7 : Class := { plain "java/lang/String" (some 0) with
  accessFlags := 49
  interfaces := #[2, 3, 4, 5, 6]
  cf := some (fileOf pool7 10 #[.nestMembers #[1103]] #[{ accessFlags := 1, nameIndex := 5, descriptorIndex := 6, attributes := #[] }, { accessFlags := 1, nameIndex := 5, descriptorIndex := 1010, attributes := #[] }, { accessFlags := 2, nameIndex := 5, descriptorIndex := 29, attributes := #[] }] 49 2 #[1106, 1108, 575, 1110, 1112] #[{ accessFlags := 18, nameIndex := 13, descriptorIndex := 14, attributes := #[] }, { accessFlags := 18, nameIndex := 17, descriptorIndex := 18, attributes := #[] }, { accessFlags := 2, nameIndex := 21, descriptorIndex := 22, attributes := #[] }, { accessFlags := 2, nameIndex := 25, descriptorIndex := 26, attributes := #[] }, { accessFlags := 26, nameIndex := 1116, descriptorIndex := 1117, attributes := #[] }, { accessFlags := 24, nameIndex := 40, descriptorIndex := 26, attributes := #[] }, { accessFlags := 26, nameIndex := 1101, descriptorIndex := 1102, attributes := #[] }, { accessFlags := 26, nameIndex := 1121, descriptorIndex := 1122, attributes := #[] }, { accessFlags := 25, nameIndex := 599, descriptorIndex := 600, attributes := #[] }, { accessFlags := 24, nameIndex := 1125, descriptorIndex := 18, attributes := #[] }, { accessFlags := 24, nameIndex := 1127, descriptorIndex := 18, attributes := #[] }])
  fields := #[{ name := "value", type := (.array .byte), accessFlags := 18, slot := 0, constantValue := 0 }, { name := "coder", type := .byte, accessFlags := 18, slot := 1, constantValue := 0 }, { name := "hash", type := .int, accessFlags := 2, slot := 2, constantValue := 0 }, { name := "hashIsZero", type := .boolean, accessFlags := 2, slot := 3, constantValue := 0 }, { name := "serialVersionUID", type := .long, accessFlags := 26, slot := 0, constantValue := 0 }, { name := "COMPACT_STRINGS", type := .boolean, accessFlags := 24, slot := 1, constantValue := 0 }, { name := "serialPersistentFields", type := (.array (.object "java/io/ObjectStreamField")), accessFlags := 26, slot := 2, constantValue := 0 }, { name := "REPL", type := .char, accessFlags := 26, slot := 3, constantValue := 0 }, { name := "CASE_INSENSITIVE_ORDER", type := (.object "java/util/Comparator"), accessFlags := 25, slot := 4, constantValue := 0 }, { name := "LATIN1", type := .byte, accessFlags := 24, slot := 5, constantValue := 0 }, { name := "UTF16", type := .byte, accessFlags := 24, slot := 6, constantValue := 0 }]
  methods := #[k7m0, k7m1, k7m2]
  instanceTypes := #[(.array .byte), .byte, .int, .boolean]
  staticTypes := #[.long, .boolean, (.array (.object "java/io/ObjectStreamField")), .char, (.object "java/util/Comparator"), .byte, .byte]
  resolved := Array.replicate 1451 none
  statics := some 0 }

def pool8 : Array CpInfo := pool [(6, .class_ 8), (1, u "java/lang/Object"), (0, u "<init>"), (0, u "()V"), (1, .class_ 14), (1, u "java/lang/StringUTF16"), (31, u "$assertionsDisabled"), (0, u "Z"), (13, u "HI_BYTE_SHIFT"), (0, u "I"), (2, u "LO_BYTE_SHIFT"), (49, .methodref 12 116), (0, .nameAndType 117 118), (0, u "compress"), (0, u "([CI[BII)I"), (3, u "([CII)[B"), (138, u "coderFromArrayLen"), (0, u "([BI)B"), (106, .class_ 371), (1, u "java/lang/StringUTF16$LinesSpliterator"), (58, u "MAX_LENGTH"), (196, .class_ 628), (0, u "java/lang/StringUTF16$CodePointsSpliterator"), (0, .class_ 630), (0, u "java/lang/StringUTF16$CharsSpliterator")] 4

def k8m0 : Method := { name := "<init>", desc := "()V", sig := { parameters := [], returnType := none }, accessFlags := 0, code := none }
def k8c1 : Code := { maxStack := 2, maxLocals := 2, code := jdk_52_method_15_code, exceptionTable := #[], attributes := #[] }
def k8m1 : Method := { name := "coderFromArrayLen", desc := "([BI)B", sig := { parameters := [(.array .byte), .int], returnType := some .byte }, accessFlags := 8, code := some k8c1 }
def k8c2 : Code := { maxStack := 5, maxLocals := 6, code := jdk_52_method_16_code, exceptionTable := #[], attributes := #[] }
def k8m2 : Method := { name := "compress", desc := "([CII)[B", sig := { parameters := [(.array .char), .int, .int], returnType := some (.array .byte) }, accessFlags := 9, code := some k8c2 }
def k8c3 : Code := { maxStack := 3, maxLocals := 7, code := jdk_52_method_21_code, exceptionTable := #[], attributes := #[] }
def k8m3 : Method := { name := "compress", desc := "([CI[BII)I", sig := { parameters := [(.array .char), .int, (.array .byte), .int, .int], returnType := some .int }, accessFlags := 9, code := some k8c3 }
/-- java/lang/StringUTF16 -/
def k8 : Class := { plain "java/lang/StringUTF16" (some 0) with
  accessFlags := 48
  interfaces := #[]
  cf := some (fileOf pool8 12 #[.nestMembers #[627, 629, 369]] #[{ accessFlags := 0, nameIndex := 9, descriptorIndex := 10, attributes := #[] }, { accessFlags := 8, nameIndex := 261, descriptorIndex := 262, attributes := #[] }, { accessFlags := 9, nameIndex := 117, descriptorIndex := 122, attributes := #[] }, { accessFlags := 9, nameIndex := 117, descriptorIndex := 118, attributes := #[] }] 48 6 #[] #[{ accessFlags := 26, nameIndex := 61, descriptorIndex := 62, attributes := #[] }, { accessFlags := 26, nameIndex := 65, descriptorIndex := 62, attributes := #[] }, { accessFlags := 24, nameIndex := 430, descriptorIndex := 62, attributes := #[] }, { accessFlags := 4120, nameIndex := 46, descriptorIndex := 47, attributes := #[] }])
  fields := #[{ name := "HI_BYTE_SHIFT", type := .int, accessFlags := 26, slot := 0, constantValue := 0 }, { name := "LO_BYTE_SHIFT", type := .int, accessFlags := 26, slot := 1, constantValue := 0 }, { name := "MAX_LENGTH", type := .int, accessFlags := 24, slot := 2, constantValue := 0 }, { name := "$assertionsDisabled", type := .boolean, accessFlags := 4120, slot := 3, constantValue := 0 }]
  methods := #[k8m0, k8m1, k8m2, k8m3]
  instanceTypes := #[]
  staticTypes := #[.int, .int, .int, .boolean]
  resolved := Array.replicate 635 none
  statics := none }

def pool9 : Array CpInfo := pool [(1, .methodref 2 3), (0, .class_ 4), (0, .nameAndType 5 6), (0, u "java/lang/Object"), (0, u "<init>"), (0, u "()V"), (0, .class_ 8), (0, u "java/lang/Record")] 13

def k9c0 : Code := { maxStack := 1, maxLocals := 1, code := jdk_30_method_1_code, exceptionTable := #[], attributes := #[] }
def k9m0 : Method := { name := "<init>", desc := "()V", sig := { parameters := [], returnType := none }, accessFlags := 4, code := some k9c0 }
/-- java/lang/Record -/
def k9 : Class := { plain "java/lang/Record" (some 0) with
  accessFlags := 1057
  interfaces := #[]
  cf := some (fileOf pool9 7 #[] #[{ accessFlags := 4, nameIndex := 5, descriptorIndex := 6, attributes := #[] }] 1057 2 #[] #[])
  fields := #[]
  methods := #[k9m0]
  instanceTypes := #[]
  staticTypes := #[]
  resolved := Array.replicate 22 none
  statics := none }

def pool10 : Array CpInfo := pool [(1, .methodref 2 3), (0, .class_ 4), (0, .nameAndType 5 6), (0, u "java/lang/Record"), (0, u "<init>"), (0, u "()V"), (0, .string 8), (0, u "name"), (0, .methodref 10 11), (0, .class_ 12), (0, .nameAndType 13 14), (0, u "java/util/Objects"), (0, u "requireNonNull"), (0, u "(Ljava/lang/Object;Ljava/lang/String;)Ljava/lang/Object;"), (13, .fieldref 29 30), (0, .class_ 31), (0, .nameAndType 8 32), (0, u "com/example/capwright/capwright/statement/OperatingStatement$Expense"), (0, u "Ljava/lang/String;"), (0, .fieldref 29 34), (0, .nameAndType 35 36), (0, u "amount"), (0, u "D"), (0, .fieldref 29 38), (0, .nameAndType 39 36), (0, u "shareOfEgi"), (9, u "(Ljava/lang/String;DD)V"), (20, u "amountAt"), (0, u "(D)D"), (7, .class_ 80), (0, u "com/example/capwright/capwright/statement/OperatingStatement")] 35

def k10c0 : Code := { maxStack := 6, maxLocals := 6, code := prog_104_method_1_code, exceptionTable := #[], attributes := #[] }
def k10m0 : Method := { name := "<init>", desc := "(Ljava/lang/String;DD)V", sig := { parameters := [(.object "java/lang/String"), .double, .double], returnType := none }, accessFlags := 1, code := some k10c0 }
def k10c1 : Code := { maxStack := 4, maxLocals := 3, code := prog_104_method_3_code, exceptionTable := #[], attributes := #[] }
def k10m1 : Method := { name := "amountAt", desc := "(D)D", sig := { parameters := [.double], returnType := some .double }, accessFlags := 1, code := some k10c1 }
/-- com/example/capwright/capwright/statement/OperatingStatement$Expense -/
def k10 : Class := { plain "com/example/capwright/capwright/statement/OperatingStatement$Expense" (some 9) with
  accessFlags := 49
  interfaces := #[]
  cf := some (fileOf pool10 29 #[.nestHost 79] #[{ accessFlags := 1, nameIndex := 5, descriptorIndex := 49, attributes := #[] }, { accessFlags := 1, nameIndex := 70, descriptorIndex := 71, attributes := #[] }] 49 2 #[] #[{ accessFlags := 18, nameIndex := 8, descriptorIndex := 32, attributes := #[] }, { accessFlags := 18, nameIndex := 35, descriptorIndex := 36, attributes := #[] }, { accessFlags := 18, nameIndex := 39, descriptorIndex := 36, attributes := #[] }])
  fields := #[{ name := "name", type := (.object "java/lang/String"), accessFlags := 18, slot := 0, constantValue := 0 }, { name := "amount", type := .double, accessFlags := 18, slot := 1, constantValue := 0 }, { name := "shareOfEgi", type := .double, accessFlags := 18, slot := 2, constantValue := 0 }]
  methods := #[k10m0, k10m1]
  instanceTypes := #[(.object "java/lang/String"), .double, .double]
  staticTypes := #[]
  resolved := Array.replicate 116 none
  statics := none }

def pool11 : Array CpInfo := pool [(2, .class_ 4), (1, u "java/lang/Object"), (0, u "<init>"), (0, u "()V"), (35, .class_ 44), (1, u "java/util/Objects"), (0, u "requireNonNull"), (48, u "(Ljava/lang/Object;Ljava/lang/String;)Ljava/lang/Object;")] 89

def k11m0 : Method := { name := "<init>", desc := "()V", sig := { parameters := [], returnType := none }, accessFlags := 2, code := none }
def k11c1 : Code := { maxStack := 3, maxLocals := 2, code := jdk_31_method_11_code, exceptionTable := #[], attributes := #[] }
def k11m1 : Method := { name := "requireNonNull", desc := "(Ljava/lang/Object;Ljava/lang/String;)Ljava/lang/Object;", sig := { parameters := [(.object "java/lang/Object"), (.object "java/lang/String")], returnType := some (.object "java/lang/Object") }, accessFlags := 9, code := some k11c1 }
/-- java/util/Objects -/
def k11 : Class := { plain "java/util/Objects" (some 0) with
  accessFlags := 49
  interfaces := #[]
  cf := some (fileOf pool11 42 #[] #[{ accessFlags := 2, nameIndex := 5, descriptorIndex := 6, attributes := #[] }, { accessFlags := 9, nameIndex := 45, descriptorIndex := 94, attributes := #[] }] 49 2 #[] #[])
  fields := #[]
  methods := #[k11m0, k11m1]
  instanceTypes := #[]
  staticTypes := #[]
  resolved := Array.replicate 184 none
  statics := none }

def pool12 : Array CpInfo := pool [(4, .class_ 6), (1, u "java/lang/Object"), (0, u "<init>"), (0, u "()V"), (5, .class_ 16), (1, u "java/lang/StringLatin1"), (104, u "$assertionsDisabled"), (0, u "Z"), (98, .class_ 223), (1, u "java/lang/StringLatin1$LinesSpliterator"), (166, .class_ 391), (0, u "java/lang/StringLatin1$CharsSpliterator")] 3

def k12m0 : Method := { name := "<init>", desc := "()V", sig := { parameters := [], returnType := none }, accessFlags := 0, code := none }
/-- java/lang/StringLatin1 -/
def k12 : Class := { plain "java/lang/StringLatin1" (some 0) with
  accessFlags := 48
  interfaces := #[]
  cf := some (fileOf pool12 14 #[.nestMembers #[390, 221]] #[{ accessFlags := 0, nameIndex := 7, descriptorIndex := 8, attributes := #[] }] 48 4 #[] #[{ accessFlags := 4120, nameIndex := 121, descriptorIndex := 122, attributes := #[] }])
  fields := #[{ name := "$assertionsDisabled", type := .boolean, accessFlags := 4120, slot := 0, constantValue := 0 }]
  methods := #[k12m0]
  instanceTypes := #[]
  staticTypes := #[.boolean]
  resolved := Array.replicate 395 none
  statics := none }

def pool13 : Array CpInfo := pool [(2, .class_ 4), (1, u "java/lang/Object"), (0, u "<init>"), (0, u "()V"), (17, .class_ 26), (1, u "jdk/internal/util/Preconditions"), (28, .class_ 56), (0, u "jdk/internal/util/Preconditions$4"), (57, .class_ 115), (0, u "jdk/internal/util/Preconditions$1"), (7, u "SIOOBE_FORMATTER"), (0, u "Ljava/util/function/BiFunction;"), (0, .class_ 126), (0, u "jdk/internal/util/Preconditions$2"), (3, u "AIOOBE_FORMATTER"), (0, .class_ 132), (0, u "jdk/internal/util/Preconditions$3"), (3, u "IOOBE_FORMATTER")] 57

def k13m0 : Method := { name := "<init>", desc := "()V", sig := { parameters := [], returnType := none }, accessFlags := 1, code := none }
/-- jdk/internal/util/Preconditions -/
def k13 : Class := { plain "jdk/internal/util/Preconditions" (some 0) with
  accessFlags := 33
  interfaces := #[]
  cf := some (fileOf pool13 24 #[.nestMembers #[55, 131, 125, 114]] #[{ accessFlags := 1, nameIndex := 5, descriptorIndex := 6, attributes := #[] }] 33 2 #[] #[{ accessFlags := 25, nameIndex := 123, descriptorIndex := 124, attributes := #[] }, { accessFlags := 25, nameIndex := 130, descriptorIndex := 124, attributes := #[] }, { accessFlags := 25, nameIndex := 136, descriptorIndex := 124, attributes := #[] }])
  fields := #[{ name := "SIOOBE_FORMATTER", type := (.object "java/util/function/BiFunction"), accessFlags := 25, slot := 0, constantValue := 0 }, { name := "AIOOBE_FORMATTER", type := (.object "java/util/function/BiFunction"), accessFlags := 25, slot := 1, constantValue := 0 }, { name := "IOOBE_FORMATTER", type := (.object "java/util/function/BiFunction"), accessFlags := 25, slot := 2, constantValue := 0 }]
  methods := #[k13m0]
  instanceTypes := #[]
  staticTypes := #[(.object "java/util/function/BiFunction"), (.object "java/util/function/BiFunction"), (.object "java/util/function/BiFunction")]
  resolved := Array.replicate 194 none
  statics := some 1 }

def pool14 : Array CpInfo := pool [(9, u "<init>"), (6, .class_ 18), (1, u "java/lang/Object"), (0, u "()V"), (1, .class_ 23), (1, u "jdk/internal/util/ArraysSupport"), (0, u "LOG2_ARRAY_LONG_INDEX_SCALE"), (0, u "I"), (2, u "U"), (0, u "Ljdk/internal/misc/Unsafe;"), (8, u "BIG_ENDIAN"), (0, u "Z"), (8, u "LOG2_BYTE_BIT_SIZE"), (4, u "LOG2_ARRAY_INT_INDEX_SCALE"), (54, u "JLA"), (0, u "Ljdk/internal/access/JavaLangAccess;"), (11, u "LOG2_ARRAY_BOOLEAN_INDEX_SCALE"), (9, u "LOG2_ARRAY_BYTE_INDEX_SCALE"), (5, u "LOG2_ARRAY_CHAR_INDEX_SCALE"), (5, u "LOG2_ARRAY_SHORT_INDEX_SCALE"), (18, u "LOG2_ARRAY_FLOAT_INDEX_SCALE"), (24, u "LOG2_ARRAY_DOUBLE_INDEX_SCALE"), (89, u "T_BOOLEAN"), (2, u "T_CHAR"), (1, u "T_FLOAT"), (1, u "T_DOUBLE"), (1, u "T_BYTE"), (1, u "T_SHORT"), (1, u "T_INT"), (1, u "T_LONG"), (1, u "SOFT_MAX_ARRAY_LENGTH")] 83

def k14m0 : Method := { name := "<init>", desc := "()V", sig := { parameters := [], returnType := none }, accessFlags := 2, code := none }
/-- jdk/internal/util/ArraysSupport -/
def k14 : Class := { plain "jdk/internal/util/ArraysSupport" (some 0) with
  accessFlags := 33
  interfaces := #[]
  cf := some (fileOf pool14 21 #[] #[{ accessFlags := 2, nameIndex := 9, descriptorIndex := 19, attributes := #[] }] 33 16 #[] #[{ accessFlags := 24, nameIndex := 28, descriptorIndex := 29, attributes := #[] }, { accessFlags := 26, nameIndex := 38, descriptorIndex := 39, attributes := #[] }, { accessFlags := 25, nameIndex := 121, descriptorIndex := 25, attributes := #[] }, { accessFlags := 25, nameIndex := 131, descriptorIndex := 25, attributes := #[] }, { accessFlags := 25, nameIndex := 137, descriptorIndex := 25, attributes := #[] }, { accessFlags := 25, nameIndex := 143, descriptorIndex := 25, attributes := #[] }, { accessFlags := 25, nameIndex := 53, descriptorIndex := 25, attributes := #[] }, { accessFlags := 25, nameIndex := 24, descriptorIndex := 25, attributes := #[] }, { accessFlags := 25, nameIndex := 162, descriptorIndex := 25, attributes := #[] }, { accessFlags := 25, nameIndex := 187, descriptorIndex := 25, attributes := #[] }, { accessFlags := 26, nameIndex := 48, descriptorIndex := 25, attributes := #[] }, { accessFlags := 25, nameIndex := 277, descriptorIndex := 25, attributes := #[] }, { accessFlags := 25, nameIndex := 280, descriptorIndex := 25, attributes := #[] }, { accessFlags := 25, nameIndex := 282, descriptorIndex := 25, attributes := #[] }, { accessFlags := 25, nameIndex := 284, descriptorIndex := 25, attributes := #[] }, { accessFlags := 25, nameIndex := 286, descriptorIndex := 25, attributes := #[] }, { accessFlags := 25, nameIndex := 288, descriptorIndex := 25, attributes := #[] }, { accessFlags := 25, nameIndex := 290, descriptorIndex := 25, attributes := #[] }, { accessFlags := 25, nameIndex := 292, descriptorIndex := 25, attributes := #[] }, { accessFlags := 26, nameIndex := 108, descriptorIndex := 109, attributes := #[] }, { accessFlags := 25, nameIndex := 294, descriptorIndex := 25, attributes := #[] }])
  fields := #[{ name := "U", type := (.object "jdk/internal/misc/Unsafe"), accessFlags := 24, slot := 0, constantValue := 0 }, { name := "BIG_ENDIAN", type := .boolean, accessFlags := 26, slot := 1, constantValue := 0 }, { name := "LOG2_ARRAY_BOOLEAN_INDEX_SCALE", type := .int, accessFlags := 25, slot := 2, constantValue := 0 }, { name := "LOG2_ARRAY_BYTE_INDEX_SCALE", type := .int, accessFlags := 25, slot := 3, constantValue := 0 }, { name := "LOG2_ARRAY_CHAR_INDEX_SCALE", type := .int, accessFlags := 25, slot := 4, constantValue := 0 }, { name := "LOG2_ARRAY_SHORT_INDEX_SCALE", type := .int, accessFlags := 25, slot := 5, constantValue := 0 }, { name := "LOG2_ARRAY_INT_INDEX_SCALE", type := .int, accessFlags := 25, slot := 6, constantValue := 0 }, { name := "LOG2_ARRAY_LONG_INDEX_SCALE", type := .int, accessFlags := 25, slot := 7, constantValue := 0 }, { name := "LOG2_ARRAY_FLOAT_INDEX_SCALE", type := .int, accessFlags := 25, slot := 8, constantValue := 0 }, { name := "LOG2_ARRAY_DOUBLE_INDEX_SCALE", type := .int, accessFlags := 25, slot := 9, constantValue := 0 }, { name := "LOG2_BYTE_BIT_SIZE", type := .int, accessFlags := 26, slot := 10, constantValue := 0 }, { name := "T_BOOLEAN", type := .int, accessFlags := 25, slot := 11, constantValue := 0 }, { name := "T_CHAR", type := .int, accessFlags := 25, slot := 12, constantValue := 0 }, { name := "T_FLOAT", type := .int, accessFlags := 25, slot := 13, constantValue := 0 }, { name := "T_DOUBLE", type := .int, accessFlags := 25, slot := 14, constantValue := 0 }, { name := "T_BYTE", type := .int, accessFlags := 25, slot := 15, constantValue := 0 }, { name := "T_SHORT", type := .int, accessFlags := 25, slot := 16, constantValue := 0 }, { name := "T_INT", type := .int, accessFlags := 25, slot := 17, constantValue := 0 }, { name := "T_LONG", type := .int, accessFlags := 25, slot := 18, constantValue := 0 }, { name := "JLA", type := (.object "jdk/internal/access/JavaLangAccess"), accessFlags := 26, slot := 19, constantValue := 0 }, { name := "SOFT_MAX_ARRAY_LENGTH", type := .int, accessFlags := 25, slot := 20, constantValue := 0 }]
  methods := #[k14m0]
  instanceTypes := #[]
  staticTypes := #[(.object "jdk/internal/misc/Unsafe"), .boolean, .int, .int, .int, .int, .int, .int, .int, .int, .int, .int, .int, .int, .int, .int, .int, .int, .int, (.object "jdk/internal/access/JavaLangAccess"), .int]
  resolved := Array.replicate 378 none
  statics := none }

def pool15 : Array CpInfo := pool [(1, u "java/lang/Cloneable"), (0, .class_ 1), (0, u "java/lang/Object"), (0, .class_ 3)] 3

/-- java/lang/Cloneable -/
def k15 : Class := { plain "java/lang/Cloneable" (some 0) with
  accessFlags := 1537
  interfaces := #[]
  cf := some (fileOf pool15 2 #[] #[] 1537 4 #[] #[])
  fields := #[]
  methods := #[]
  instanceTypes := #[]
  staticTypes := #[]
  resolved := Array.replicate 8 none
  statics := none }

/-- the primitive byte -/
def k16 : Class := { plain "byte" none with kind := .primitive 'B', accessFlags := 0x411 }
/-- [B -/
def k17 : Class := { plain "[B" (some 0) with kind := .array 16 .byte, interfaces := #[15, 2], accessFlags := 1041 }

/-- the primitive char -/
def k18 : Class := { plain "char" none with kind := .primitive 'C', accessFlags := 0x411 }
/-- [C -/
def k19 : Class := { plain "[C" (some 0) with kind := .array 18 .char, interfaces := #[15, 2], accessFlags := 1041 }

def heap : Heap := #[{ cls := 7, slots := #[.long 0, .int 1, .null, .int 0, .null, .int 0, .int 0], vm := .statics 7 },
  { cls := 13, slots := #[.null, .null, .null], vm := .statics 13 }]
def classes : Array Class := #[k0, k1, k2, k3, k4, k5, k6, k7, k8, k9, k10, k11, k12, k13, k14, k15, k16, k17, k18, k19]
def interned : List (Array UInt16 × Addr) := []
def slotsUsed : Nat := 10
def theMethod : MethodId := ⟨1, 1⟩
def args0 : Array Value := #[.int 3, .long 4, .int 5, .int 6, .int 65]
def aboutOver (below : List Frame) : State where
  vm := { classes := classes, interned := interned.toArray }
  heap := heap
  slotsUsed := slotsUsed
  threads := #[{ frames := .invoking theMethod args0 :: below }]
def below0 : List Frame := [.native { method := ⟨0, 0⟩, args := #[] }]
def about1 : State := aboutOver below0
def p0 : Program := .bare "" "" ""
def e0 : Env := launch0.env 0 0 0
theorem w_frames : about1.frames = Frame.invoking theMethod args0 :: below0 := rfl
set_option maxRecDepth 65536 in
theorem w_args : argsFit about1.vm theMethod args0 = true := by decide +kernel
set_option maxRecDepth 65536 in
theorem w_heap : heapFits about1 = true := by decide +kernel
set_option maxRecDepth 65536 in
theorem w_runnable : about1.curStatus? = some .runnable := by decide +kernel
set_option maxRecDepth 65536 in
theorem w_alone : about1.alone = true := by decide +kernel
set_option maxRecDepth 65536 in
theorem w_named : about1.methodNamed? x = some theMethod := by decide +kernel
set_option maxRecDepth 65536 in
theorem w_hears : about1.hears theMethod below0 = true := by decide +kernel
set_option maxRecDepth 65536 in
theorem w_ripe : about1.ripe theMethod args0 below0 = true := by decide +kernel
theorem w_running : about1.status = .running := rfl
set_option maxRecDepth 65536 in
theorem w_room : about1.hasRoom e0.platform room_1 = true :=
  launch0.hasRoom_least _ room_1 (by decide +kernel) (by decide +kernel) (by decide +kernel) (by decide +kernel) (by decide +kernel) (by decide +kernel)
theorem allAtoms_all (ts : List Jvm.Cond) (a : Array Jvm.Value) (st : Jvm.State) : (allAtoms ts).before a st = ts.all (fun c => c.before a st) := by
  induction ts with
  | nil => rfl
  | cons c t ih =>
    show (Jvm.Cond.and c (allAtoms t)).before a st = _
    rw [Jvm.Cond.before_and, ih, List.all_cons]
def words1 : List Jvm.Cond := Jvm.Cond.code x code maxLocals ret :: tables_1
/-- a 'code' word, met by the world's own term for the bytes: nothing is compared byte by byte -/
theorem code_word {y : MethodName} {bytes : ByteArray} {mx : Nat} {rt : Option FieldType} {a : Array Value} {s : State} {m : MethodId} {meth : Method} {c : Code} (h1 : s.methodNamed? y = some m) (h2 : s.vm.method? m = some meth) (h3 : meth.code = some c) (h4 : c.code = bytes)
    (h5 : (c.maxLocals == mx && c.exceptionTable.isEmpty && decide (c.maxStack ≤ mostOperands) && decide (meth.sig.returnType = rt) && !meth.locks && decide (parseMethodDescriptor y.desc = some meth.sig)) = true) : (Jvm.Cond.code y bytes mx rt).before a s = true := by
  simp only [Bool.and_eq_true, beq_iff_eq, Bool.not_eq_true', decide_eq_true_eq] at h5
  obtain ⟨⟨⟨⟨⟨g1, g2⟩, g3⟩, g4⟩, g5⟩, g6⟩ := h5
  simp [Cond.before, Cond.holds, Cond.value, h1, h2, h3, h4, g1, g2, g3, g4, g5, g6]
def isCode : Jvm.Cond → Bool
  | .code _ _ _ _ => true
  | _ => false
theorem all_split {L : List Jvm.Cond} {P : Jvm.Cond → Bool} (h1 : L.all (fun c => isCode c || P c) = true) (h2 : ∀ c ∈ L.filter isCode, P c = true) : L.all P = true := by
  refine List.all_eq_true.mpr fun c hc => ?_
  have h := List.all_eq_true.mp h1 c hc
  rcases Bool.eq_false_or_eq_true (isCode c) with hi | hi
  · exact h2 c (List.mem_filter.mpr ⟨hc, hi⟩)
  · simpa [hi] using h
set_option maxRecDepth 65536 in
theorem w_c0 : (Jvm.Cond.code x code maxLocals ret).before args0 about1 = true := code_word (m := ⟨1, 1⟩) (meth := k1m1) (c := k1c1) (by decide +kernel) rfl rfl rfl (by decide +kernel)
set_option maxRecDepth 65536 in
theorem w_c1 : (Jvm.Cond.code ({ cls := "java/lang/String", name := "<init>", desc := "([C)V" } : Jvm.MethodName) jdk_42_method_3_code (2 : Nat) (Option.none : Option Jvm.ClassFile.FieldType)).before args0 about1 = true := code_word (m := ⟨7, 1⟩) (meth := k7m1) (c := k7c1) (by decide +kernel) rfl rfl rfl (by decide +kernel)
set_option maxRecDepth 65536 in
theorem w_c2 : (Jvm.Cond.code ({ cls := "java/lang/String", name := "<init>", desc := "([CIILjava/lang/Void;)V" } : Jvm.MethodName) jdk_42_method_149_code (6 : Nat) (Option.none : Option Jvm.ClassFile.FieldType)).before args0 about1 = true := code_word (m := ⟨7, 2⟩) (meth := k7m2) (c := k7c2) (by decide +kernel) rfl rfl rfl (by decide +kernel)
set_option maxRecDepth 65536 in
theorem w_c3 : (Jvm.Cond.code ({ cls := "java/lang/Object", name := "<init>", desc := "()V" } : Jvm.MethodName) object_method_1_code (1 : Nat) (Option.none : Option Jvm.ClassFile.FieldType)).before args0 about1 = true := code_word (m := ⟨0, 0⟩) (meth := k0m0) (c := k0c0) (by decide +kernel) rfl rfl rfl (by decide +kernel)
set_option maxRecDepth 65536 in
theorem w_c4 : (Jvm.Cond.code ({ cls := "java/lang/StringUTF16", name := "compress", desc := "([CII)[B" } : Jvm.MethodName) jdk_52_method_16_code (6 : Nat) (Option.some (Jvm.ClassFile.FieldType.array Jvm.ClassFile.FieldType.byte))).before args0 about1 = true := code_word (m := ⟨8, 2⟩) (meth := k8m2) (c := k8c2) (by decide +kernel) rfl rfl rfl (by decide +kernel)
set_option maxRecDepth 65536 in
theorem w_c5 : (Jvm.Cond.code ({ cls := "java/lang/StringUTF16", name := "compress", desc := "([CI[BII)I" } : Jvm.MethodName) jdk_52_method_21_code (7 : Nat) (Option.some Jvm.ClassFile.FieldType.int)).before args0 about1 = true := code_word (m := ⟨8, 3⟩) (meth := k8m3) (c := k8c3) (by decide +kernel) rfl rfl rfl (by decide +kernel)
set_option maxRecDepth 65536 in
theorem w_c6 : (Jvm.Cond.code ({ cls := "java/lang/StringUTF16", name := "coderFromArrayLen", desc := "([BI)B" } : Jvm.MethodName) jdk_52_method_15_code (2 : Nat) (Option.some Jvm.ClassFile.FieldType.byte)).before args0 about1 = true := code_word (m := ⟨8, 1⟩) (meth := k8m1) (c := k8c1) (by decide +kernel) rfl rfl rfl (by decide +kernel)
set_option maxRecDepth 65536 in
theorem w_c7 : (Jvm.Cond.code ({ cls := "com/example/capwright/capwright/statement/OperatingStatement$Expense", name := "<init>", desc := "(Ljava/lang/String;DD)V" } : Jvm.MethodName) prog_104_method_1_code (6 : Nat) (Option.none : Option Jvm.ClassFile.FieldType)).before args0 about1 = true := code_word (m := ⟨10, 0⟩) (meth := k10m0) (c := k10c0) (by decide +kernel) rfl rfl rfl (by decide +kernel)
set_option maxRecDepth 65536 in
theorem w_c8 : (Jvm.Cond.code ({ cls := "java/lang/Record", name := "<init>", desc := "()V" } : Jvm.MethodName) jdk_30_method_1_code (1 : Nat) (Option.none : Option Jvm.ClassFile.FieldType)).before args0 about1 = true := code_word (m := ⟨9, 0⟩) (meth := k9m0) (c := k9c0) (by decide +kernel) rfl rfl rfl (by decide +kernel)
set_option maxRecDepth 65536 in
theorem w_c9 : (Jvm.Cond.code ({ cls := "java/util/Objects", name := "requireNonNull", desc := "(Ljava/lang/Object;Ljava/lang/String;)Ljava/lang/Object;" } : Jvm.MethodName) jdk_31_method_11_code (2 : Nat) (Option.some (Jvm.ClassFile.FieldType.object "java/lang/Object"))).before args0 about1 = true := code_word (m := ⟨11, 1⟩) (meth := k11m1) (c := k11c1) (by decide +kernel) rfl rfl rfl (by decide +kernel)
set_option maxRecDepth 65536 in
theorem w_c10 : (Jvm.Cond.code ({ cls := "com/example/capwright/capwright/statement/OperatingStatement$Expense", name := "amountAt", desc := "(D)D" } : Jvm.MethodName) prog_104_method_3_code (3 : Nat) (Option.some Jvm.ClassFile.FieldType.double)).before args0 about1 = true := code_word (m := ⟨10, 1⟩) (meth := k10m1) (c := k10c1) (by decide +kernel) rfl rfl rfl (by decide +kernel)
def codes1 : List Jvm.Cond := [Jvm.Cond.code x code maxLocals ret, Jvm.Cond.code ({ cls := "java/lang/String", name := "<init>", desc := "([C)V" } : Jvm.MethodName) jdk_42_method_3_code (2 : Nat) (Option.none : Option Jvm.ClassFile.FieldType), Jvm.Cond.code ({ cls := "java/lang/String", name := "<init>", desc := "([CIILjava/lang/Void;)V" } : Jvm.MethodName) jdk_42_method_149_code (6 : Nat) (Option.none : Option Jvm.ClassFile.FieldType), Jvm.Cond.code ({ cls := "java/lang/Object", name := "<init>", desc := "()V" } : Jvm.MethodName) object_method_1_code (1 : Nat) (Option.none : Option Jvm.ClassFile.FieldType), Jvm.Cond.code ({ cls := "java/lang/StringUTF16", name := "compress", desc := "([CII)[B" } : Jvm.MethodName) jdk_52_method_16_code (6 : Nat) (Option.some (Jvm.ClassFile.FieldType.array Jvm.ClassFile.FieldType.byte)), Jvm.Cond.code ({ cls := "java/lang/StringUTF16", name := "compress", desc := "([CI[BII)I" } : Jvm.MethodName) jdk_52_method_21_code (7 : Nat) (Option.some Jvm.ClassFile.FieldType.int), Jvm.Cond.code ({ cls := "java/lang/StringUTF16", name := "coderFromArrayLen", desc := "([BI)B" } : Jvm.MethodName) jdk_52_method_15_code (2 : Nat) (Option.some Jvm.ClassFile.FieldType.byte), Jvm.Cond.code ({ cls := "com/example/capwright/capwright/statement/OperatingStatement$Expense", name := "<init>", desc := "(Ljava/lang/String;DD)V" } : Jvm.MethodName) prog_104_method_1_code (6 : Nat) (Option.none : Option Jvm.ClassFile.FieldType), Jvm.Cond.code ({ cls := "java/lang/Record", name := "<init>", desc := "()V" } : Jvm.MethodName) jdk_30_method_1_code (1 : Nat) (Option.none : Option Jvm.ClassFile.FieldType), Jvm.Cond.code ({ cls := "java/util/Objects", name := "requireNonNull", desc := "(Ljava/lang/Object;Ljava/lang/String;)Ljava/lang/Object;" } : Jvm.MethodName) jdk_31_method_11_code (2 : Nat) (Option.some (Jvm.ClassFile.FieldType.object "java/lang/Object")), Jvm.Cond.code ({ cls := "com/example/capwright/capwright/statement/OperatingStatement$Expense", name := "amountAt", desc := "(D)D" } : Jvm.MethodName) prog_104_method_3_code (3 : Nat) (Option.some Jvm.ClassFile.FieldType.double)]
set_option maxRecDepth 65536 in
theorem codes_eq : words1.filter isCode = codes1 := rfl
theorem w_codes : ∀ c ∈ words1.filter isCode, c.before args0 about1 = true := by
  rw [codes_eq]
  intro c hc
  simp only [codes1, List.mem_cons, List.not_mem_nil, or_false] at hc
  rcases hc with rfl | rfl | rfl | rfl | rfl | rfl | rfl | rfl | rfl | rfl | rfl
  · exact w_c0
  · exact w_c1
  · exact w_c2
  · exact w_c3
  · exact w_c4
  · exact w_c5
  · exact w_c6
  · exact w_c7
  · exact w_c8
  · exact w_c9
  · exact w_c10
set_option maxRecDepth 65536 in
theorem w_t1 : (words1.take 24).all (fun c => isCode c || c.before args0 about1) = true := by decide +kernel
set_option maxRecDepth 65536 in
theorem w_t2 : ((words1.drop 24).take 24).all (fun c => isCode c || c.before args0 about1) = true := by decide +kernel
set_option maxRecDepth 65536 in
theorem w_t3 : ((words1.drop 24).drop 24).all (fun c => isCode c || c.before args0 about1) = true := by decide +kernel
theorem w_tables : (allAtoms (Jvm.Cond.code x code maxLocals ret :: tables_1)).before args0 about1 = true := by
  rw [allAtoms_all]
  show words1.all (fun c => c.before args0 about1) = true
  refine all_split ?_ w_codes
  rw [← List.take_append_drop 24 words1, List.all_append, w_t1, ← List.take_append_drop 24 (words1.drop 24), List.all_append, w_t2, w_t3]
  rfl
set_option maxRecDepth 65536 in
theorem w_rest : rest_1_c.before args0 about1 = true := by decide +kernel
set_option maxRecDepth 65536 in
theorem w_case : (Jvm.Cond.and given_1 narrow_1).before args0 about1 = true := by decide +kernel
theorem w_applies : (headSpec (Jvm.Cond.code x code maxLocals ret :: tables_1) room_1).applies x e0.platform about1 = true :=
  (Spec.applies_iff w_frames).mpr ⟨w_running, w_runnable, w_alone, w_named, w_hears, w_ripe, w_room, w_tables⟩
theorem atStart : AtStart classFile x code maxLocals ret World_1 tables_1 room_1 Calls_1 rest_1 Pre_1 launch0 p0 e0 about1 theMethod args0 below0 :=
  ⟨lists_1, trivial, launch0.admits_env _ _ _, launch0.least_env, fairChoices_fair.cas, fairChoices_fair.clock, w_frames, w_args, w_heap, w_applies, trivial, w_rest, w_case⟩
end start1
theorem witness_1 : WitnessClaimed_1 := ⟨start1.p0, start1.e0, start1.about1, start1.theMethod, start1.args0, start1.below0, start1.atStart⟩
end Jvm.Pilot.@@N@@
