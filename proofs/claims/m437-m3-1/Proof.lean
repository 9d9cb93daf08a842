import JvmDerived
import JvmDerived.Pilot.@@N@@Statement
import JvmDerived.Pilot.@@N@@Code
set_option linter.unusedVariables false
set_option linter.unusedSimpArgs false
@@BLOCK:NumsL.lean.txt@@
namespace Jvm.Pilot.@@N@@
open Jvm Jvm.ClassFile Sem Op Lib Jvm.Free Jvm.Stand Jvm.LawKit Jvm.RoadKit Bundle Jvm.Pilot.@@N@@.Jvm.D
open Jvm.Free.Fl (NoNaN64 Fin64 Nz64)
theorem own_lt_ne {a b n : Nat} (h : a < n) (g : b = n) : a ≠ b := by omega
theorem own_lt_ne2 {a b n : Nat} (h : a < n) (g : n ≤ b) : a ≠ b := by omega
theorem own_ge_of {k b n : Nat} (h : k ≤ n) (g : b = n) : k ≤ b := by omega
abbrev uu : Slot := .unset
abbrev ss : Slot := .second
abbrev vi (x : Int32) : Slot := .val (.int x)
abbrev vj (x : Int64) : Slot := .val (.long x)
abbrev vd (x : UInt64) : Slot := .val (.double x)
abbrev vr (x : Addr) : Slot := .val (.ref x)
/-- whatever is reached from here is reached from E -/
abbrev own_G (p : Program) (e : Env) (below : List Frame) (E T : State) (g : JFrame) : Prop := ∀ t, Steps p.tables e below (T.setTop g) t → Steps p.tables e below E t
theorem own_if_eqY {x : Int32} (h : x = 0) : ifCond.holds .eq x = true := by subst h; rfl
theorem own_if_eqN {x : Int32} (h : ¬ x = 0) : ifCond.holds .eq x = false := beq_false_of_ne h
theorem own_if_neY {x : Int32} (h : ¬ x = 0) : ifCond.holds .ne x = true := bne_iff_ne.mpr h
theorem own_if_neN {x : Int32} (h : x = 0) : ifCond.holds .ne x = false := by subst h; rfl
theorem own_if_ltY {x : Int32} (h : x < 0) : ifCond.holds .lt x = true := decide_eq_true h
theorem own_if_ltN {x : Int32} (h : ¬ x < 0) : ifCond.holds .lt x = false := decide_eq_false h
theorem own_if_geY {x : Int32} (h : ¬ x < 0) : ifCond.holds .ge x = true := decide_eq_true (Int32.not_lt.mp h)
theorem own_if_geN {x : Int32} (h : x < 0) : ifCond.holds .ge x = false := decide_eq_false (fun q => Int32.not_le.mpr h q)
theorem own_if_gtY {x : Int32} (h : 0 < x) : ifCond.holds .gt x = true := decide_eq_true h
theorem own_if_gtN {x : Int32} (h : ¬ 0 < x) : ifCond.holds .gt x = false := decide_eq_false h
theorem own_if_leY {x : Int32} (h : ¬ 0 < x) : ifCond.holds .le x = true := decide_eq_true (Int32.not_lt.mp h)
theorem own_if_leN {x : Int32} (h : 0 < x) : ifCond.holds .le x = false := decide_eq_false (fun q => Int32.not_le.mpr h q)
theorem own_ic_eqY {x y : Int32} (h : x = y) : if_icmp.holds .eq x y = true := beq_iff_eq.mpr h
theorem own_ic_eqN {x y : Int32} (h : ¬ x = y) : if_icmp.holds .eq x y = false := beq_false_of_ne h
theorem own_ic_neY {x y : Int32} (h : ¬ x = y) : if_icmp.holds .ne x y = true := bne_iff_ne.mpr h
theorem own_ic_neN {x y : Int32} (h : x = y) : if_icmp.holds .ne x y = false := by subst h; exact bne_self_eq_false x
theorem own_ic_ltY {x y : Int32} (h : x < y) : if_icmp.holds .lt x y = true := decide_eq_true h
theorem own_ic_ltN {x y : Int32} (h : ¬ x < y) : if_icmp.holds .lt x y = false := decide_eq_false h
theorem own_ic_geY {x y : Int32} (h : ¬ x < y) : if_icmp.holds .ge x y = true := decide_eq_true (Int32.not_lt.mp h)
theorem own_ic_geN {x y : Int32} (h : x < y) : if_icmp.holds .ge x y = false := decide_eq_false (fun q => Int32.not_le.mpr h q)
theorem own_ic_gtY {x y : Int32} (h : y < x) : if_icmp.holds .gt x y = true := decide_eq_true h
theorem own_ic_gtN {x y : Int32} (h : ¬ y < x) : if_icmp.holds .gt x y = false := decide_eq_false h
theorem own_ic_leY {x y : Int32} (h : ¬ y < x) : if_icmp.holds .le x y = true := decide_eq_true (Int32.not_lt.mp h)
theorem own_ic_leN {x y : Int32} (h : y < x) : if_icmp.holds .le x y = false := decide_eq_false (fun q => Int32.not_le.mpr h q)
/-- what a comparison of two whole or scaled values pushes -/
def own_c (i j : Int) : Int32 := if i < j then -1 else if i = j then 0 else 1
theorem own_cE (o : CmpOp) {x y : UInt64} {i j : Int} (h : FP.dcmp x y = some (compare i j)) : cmpValue (FP.dcmp x y) o = own_c i j := by
  rw [h, FP.Core.compare_ite, own_c]
  by_cases h1 : i < j
  · rw [if_pos h1, if_pos h1]; cases o <;> rfl
  · rw [if_neg h1, if_neg h1]
    by_cases h2 : i = j
    · rw [if_pos h2, if_pos h2]; cases o <;> rfl
    · rw [if_neg h2, if_neg h2]; cases o <;> rfl
theorem own_c_lt {i j : Int} (h : i < j) : own_c i j = -1 := by rw [own_c, if_pos h]
theorem own_c_eq {i j : Int} (h : i = j) : own_c i j = 0 := by rw [own_c, if_neg (by omega), if_pos h]
theorem own_c_gt {i j : Int} (h : j < i) : own_c i j = 1 := by rw [own_c, if_neg (by omega), if_neg (by omega)]
theorem own_c_cases (i j : Int) : (i < j ∧ own_c i j = -1) ∨ (i = j ∧ own_c i j = 0) ∨ (j < i ∧ own_c i j = 1) := by
  rcases Int.lt_trichotomy i j with h | h | h
  · exact Or.inl ⟨h, own_c_lt h⟩
  · exact Or.inr (Or.inl ⟨h, own_c_eq h⟩)
  · exact Or.inr (Or.inr ⟨h, own_c_gt h⟩)
theorem own_c_ltY {i j : Int} (h : i < j) : ifCond.holds .lt (own_c i j) = true := by rw [own_c_lt h]; rfl
theorem own_c_ltN {i j : Int} (h : ¬ i < j) : ifCond.holds .lt (own_c i j) = false := by rcases own_c_cases i j with q | q | q <;> first | exact absurd q.1 h | (rw [q.2]; rfl)
theorem own_c_geY {i j : Int} (h : ¬ i < j) : ifCond.holds .ge (own_c i j) = true := by rcases own_c_cases i j with q | q | q <;> first | exact absurd q.1 h | (rw [q.2]; rfl)
theorem own_c_geN {i j : Int} (h : i < j) : ifCond.holds .ge (own_c i j) = false := by rw [own_c_lt h]; rfl
theorem own_c_gtY {i j : Int} (h : j < i) : ifCond.holds .gt (own_c i j) = true := by rw [own_c_gt h]; rfl
theorem own_c_gtN {i j : Int} (h : ¬ j < i) : ifCond.holds .gt (own_c i j) = false := by rcases own_c_cases i j with q | q | q <;> first | exact absurd q.1 h | (rw [q.2]; rfl)
theorem own_c_leY {i j : Int} (h : ¬ j < i) : ifCond.holds .le (own_c i j) = true := by rcases own_c_cases i j with q | q | q <;> first | exact absurd q.1 h | (rw [q.2]; rfl)
theorem own_c_leN {i j : Int} (h : j < i) : ifCond.holds .le (own_c i j) = false := by rw [own_c_gt h]; rfl
theorem own_c_eqY {i j : Int} (h : i = j) : ifCond.holds .eq (own_c i j) = true := by rw [own_c_eq h]; rfl
theorem own_c_eqN {i j : Int} (h : ¬ i = j) : ifCond.holds .eq (own_c i j) = false := by rcases own_c_cases i j with q | q | q <;> first | exact absurd q.1 h | (rw [q.2]; rfl)
theorem own_c_neY {i j : Int} (h : ¬ i = j) : ifCond.holds .ne (own_c i j) = true := by rcases own_c_cases i j with q | q | q <;> first | exact absurd q.1 h | (rw [q.2]; rfl)
theorem own_c_neN {i j : Int} (h : i = j) : ifCond.holds .ne (own_c i j) = false := by rw [own_c_eq h]; rfl
theorem own_l_lt {i j : Int64} (h : i < j) : XT.cmpL i j = -1 := by
  rw [XT.cmpL, if_neg (fun q => Int64.lt_irrefl (Int64.lt_trans h q)), if_neg (fun q => Int64.lt_irrefl (q ▸ h))]
theorem own_l_eq {i j : Int64} (h : i = j) : XT.cmpL i j = 0 := by subst h; rw [XT.cmpL, if_neg Int64.lt_irrefl, if_pos rfl]
theorem own_l_gt {i j : Int64} (h : j < i) : XT.cmpL i j = 1 := by rw [XT.cmpL, if_pos h]
theorem own_l_cases (i j : Int64) : (i < j ∧ XT.cmpL i j = -1) ∨ (i = j ∧ XT.cmpL i j = 0) ∨ (j < i ∧ XT.cmpL i j = 1) := by
  by_cases h : i < j
  · exact Or.inl ⟨h, own_l_lt h⟩
  · by_cases h2 : i = j
    · exact Or.inr (Or.inl ⟨h2, own_l_eq h2⟩)
    · have h3 : j < i := by
        rw [Int64.lt_iff_toInt_lt] at h ⊢
        have h4 : i.toInt ≠ j.toInt := fun q => h2 (Int64.toInt_inj.mp q)
        omega
      exact Or.inr (Or.inr ⟨h3, own_l_gt h3⟩)
theorem own_l_ltY {i j : Int64} (h : i < j) : ifCond.holds .lt (XT.cmpL i j) = true := by rw [own_l_lt h]; rfl
theorem own_l_ltN {i j : Int64} (h : ¬ i < j) : ifCond.holds .lt (XT.cmpL i j) = false := by rcases own_l_cases i j with q | q | q <;> first | exact absurd q.1 h | (rw [q.2]; rfl)
theorem own_l_geY {i j : Int64} (h : ¬ i < j) : ifCond.holds .ge (XT.cmpL i j) = true := by rcases own_l_cases i j with q | q | q <;> first | exact absurd q.1 h | (rw [q.2]; rfl)
theorem own_l_geN {i j : Int64} (h : i < j) : ifCond.holds .ge (XT.cmpL i j) = false := by rw [own_l_lt h]; rfl
theorem own_l_gtY {i j : Int64} (h : j < i) : ifCond.holds .gt (XT.cmpL i j) = true := by rw [own_l_gt h]; rfl
theorem own_l_gtN {i j : Int64} (h : ¬ j < i) : ifCond.holds .gt (XT.cmpL i j) = false := by rcases own_l_cases i j with q | q | q <;> first | exact absurd q.1 h | (rw [q.2]; rfl)
theorem own_l_leY {i j : Int64} (h : ¬ j < i) : ifCond.holds .le (XT.cmpL i j) = true := by rcases own_l_cases i j with q | q | q <;> first | exact absurd q.1 h | (rw [q.2]; rfl)
theorem own_l_leN {i j : Int64} (h : j < i) : ifCond.holds .le (XT.cmpL i j) = false := by rw [own_l_gt h]; rfl
theorem own_l_eqY {i j : Int64} (h : i = j) : ifCond.holds .eq (XT.cmpL i j) = true := by rw [own_l_eq h]; rfl
theorem own_l_eqN {i j : Int64} (h : ¬ i = j) : ifCond.holds .eq (XT.cmpL i j) = false := by rcases own_l_cases i j with q | q | q <;> first | exact absurd q.1 h | (rw [q.2]; rfl)
theorem own_l_neY {i j : Int64} (h : ¬ i = j) : ifCond.holds .ne (XT.cmpL i j) = true := by rcases own_l_cases i j with q | q | q <;> first | exact absurd q.1 h | (rw [q.2]; rfl)
theorem own_l_neN {i j : Int64} (h : i = j) : ifCond.holds .ne (XT.cmpL i j) = false := by rw [own_l_eq h]; rfl
theorem own_ac_eq_Y {x y : Value} (h : x = y) : XT.acmp .eq x y = true := decide_eq_true h
theorem own_ac_eq_N {x y : Value} (h : ¬ x = y) : XT.acmp .eq x y = false := decide_eq_false h
theorem own_ac_ne_Y {x y : Value} (h : ¬ x = y) : XT.acmp .ne x y = true := decide_eq_true h
theorem own_ac_ne_N {x y : Value} (h : x = y) : XT.acmp .ne x y = false := decide_eq_false (fun q => q h)
theorem own_ar_eq_Y {x y : Addr} (h : x = y) : XT.acmp .eq (.ref x) (.ref y) = true := own_ac_eq_Y (congrArg Value.ref h)
theorem own_ar_eq_N {x y : Addr} (h : ¬ x = y) : XT.acmp .eq (.ref x) (.ref y) = false := own_ac_eq_N (fun q => h (Value.ref.inj q))
theorem own_ar_ne_Y {x y : Addr} (h : ¬ x = y) : XT.acmp .ne (.ref x) (.ref y) = true := own_ac_ne_Y (fun q => h (Value.ref.inj q))
theorem own_ar_ne_N {x y : Addr} (h : x = y) : XT.acmp .ne (.ref x) (.ref y) = false := own_ac_ne_N (congrArg Value.ref h)
/-- a static's object's field that the case names by a number -/
theorem own_ord {args : Array Value} {s : State} {t : Term} {C n d : String} {k : Int32} {x : Addr} (ev : t.eval args s none [] s = some (.ref x))
    (h : (Jvm.Cond.eq (Term.field t C n d) (Term.int k)).value args s none s [] = some true) : s.fieldOf? x C n d = some (.int k) := by
  obtain ⟨v, u, e1, e2, k1, k2⟩ := cmp_v (Or.inl h)
  have e3 : u = .int k := by have := (Term.int_eval (args := args) (first := s) (o := none) (idx := []) (s := s) k).symm.trans e2; exact (Option.some.inj this).symm
  subst e3
  obtain ⟨z, rfl⟩ := k2
  have q := gotT (Cond.eq_ints e1 e2) h
  rw [← fld_at ev, e1, q]
end Jvm.Pilot.@@N@@
/- laws to paste: Road.backV (cut by pick.py; bodies as the Statement names them) -/
namespace Jvm.Pilot.@@N@@
namespace StrChars
open Jvm Sem ClassFile Op Lib Jvm.Stand Jvm.Free.XT Jvm.Free.ALB Jvm.Free.JM Jvm.Free
open Jvm.Lib.Cold (StaticIs)
/-- a char array whose places are chars -/
def Ch (a : Addr) (A : Cell) (U : State) : Prop := Arr .char a A U ∧ Typed .char A
theorem Ch.mv {a : Addr} {A : Cell} {U U' : State} (h : Ch a A U) (hal : U.vm.Alike U'.vm) (hh : U'.heap = U.heap) : Ch a A U' := ⟨h.1.mv hal hh, h.2⟩
theorem Ch.keep {a : Addr} {A : Cell} {U U' : State} (h : Ch a A U) (hal : U.vm.Alike U'.vm) (hk : U'.heap[a]? = some A) : Ch a A U' := ⟨h.1.keep hal hk, h.2⟩
/-- what place i of a char[]'s cell holds -/
def cv (A : Cell) (i : Nat) : Int32 := match A.slots[i]? with | some (.int x) => x | _ => 0
theorem Ch.get {a : Addr} {A : Cell} {U : State} (h : Ch a A U) {i : Nat} (hi : i < A.slots.size) : A.slots[i]? = some (.int (cv A i)) := by
  have e := Array.getElem?_eq_getElem hi
  have f := h.2 i _ e
  unfold cv; rw [e]
  generalize A.slots[i] = v at f
  cases v <;> simp [fits] at f ⊢
/-- the byte that i2b leaves of a char -/
def lo8 (x : Int32) : Int32 := x.toInt8.toInt32
theorem fits_lo8 (y : Int32) : fits .byte (.int (lo8 y)) = true := by
  have h1 := y.toInt8.le_toInt
  have h2 := y.toInt8.toInt_lt
  simp only [lo8, fits, Bool.and_eq_true, decide_eq_true_eq, Int32.le_iff_toInt_le, Int8.toInt_toInt32, show (-128 : Int32).toInt = -128 from by decide, show (127 : Int32).toInt = 127 from by decide]
  omega
/-- A' is A but that each place j of lo .. hi - 1 holds f j -/
def Laid (A A' : Cell) (lo hi : Nat) (f : Nat → Value) : Prop := A'.cls = A.cls ∧ A'.vm = A.vm ∧ A'.slots.size = A.slots.size ∧ ∀ i, A'.slots[i]? = if lo ≤ i ∧ i < hi then some (f i) else A.slots[i]?
theorem Laid.zero (A : Cell) (lo : Nat) (f : Nat → Value) : Laid A A lo (lo + 0) f := ⟨rfl, rfl, rfl, fun i => by rw [if_neg (by omega)]⟩
theorem Laid.step {A Ak : Cell} {lo k : Nat} {f : Nat → Value} {v : Value} (h : Laid A Ak lo k f) (hlo : lo ≤ k) (hk : k < Ak.slots.size) (hv : v = f k) : Laid A (Ak.setSlot k v) lo (k + 1) f := by
  refine ⟨h.1, h.2.1, by simpa [Cell.setSlot] using h.2.2.1, fun i => ?_⟩
  by_cases e : k = i
  · subst e; rw [Cell.slots_setSlot_self v hk, if_pos (by omega), hv]
  · rw [Cell.slots_setSlot_ne v e, h.2.2.2 i]
    by_cases q : lo ≤ i ∧ i < k
    · rw [if_pos q, if_pos (by omega)]
    · rw [if_neg q, if_neg (by omega)]
def U16 : String := "java/lang/StringUTF16"
namespace Cmp5
def yN : MethodName := ⟨"java/lang/StringUTF16", "compress", "([CI[BII)I"⟩
abbrev yB : ByteArray := jdk_52_method_21_code
theorem d0 : decode yB 0 = .ok (.iconst 0, 1) := by decide +kernel
theorem d1 : decode yB 1 = .ok (.istore 5, 2) := by decide +kernel
theorem d3 : decode yB 3 = .ok (.iload 5, 2) := by decide +kernel
theorem d5 : decode yB 5 = .ok (.iload 4, 2) := by decide +kernel
theorem d7 : decode yB 7 = .ok (.if_icmp (.ge) 37, 3) := by decide +kernel
theorem d10 : decode yB 10 = .ok (.aload_n 0, 1) := by decide +kernel
theorem d11 : decode yB 11 = .ok (.iload_n 1, 1) := by decide +kernel
theorem d12 : decode yB 12 = .ok (.caload, 1) := by decide +kernel
theorem d13 : decode yB 13 = .ok (.istore 6, 2) := by decide +kernel
theorem d15 : decode yB 15 = .ok (.iload 6, 2) := by decide +kernel
theorem d17 : decode yB 17 = .ok (.sipush 255, 3) := by decide +kernel
theorem d20 : decode yB 20 = .ok (.if_icmp (.le) 6, 3) := by decide +kernel
theorem d26 : decode yB 26 = .ok (.aload_n 2, 1) := by decide +kernel
theorem d27 : decode yB 27 = .ok (.iload_n 3, 1) := by decide +kernel
theorem d28 : decode yB 28 = .ok (.iload 6, 2) := by decide +kernel
theorem d30 : decode yB 30 = .ok (.i2b, 1) := by decide +kernel
theorem d31 : decode yB 31 = .ok (.bastore, 1) := by decide +kernel
theorem d32 : decode yB 32 = .ok (.iinc 1 1, 3) := by decide +kernel
theorem d35 : decode yB 35 = .ok (.iinc 3 1, 3) := by decide +kernel
theorem d38 : decode yB 38 = .ok (.iinc 5 1, 3) := by decide +kernel
theorem d41 : decode yB 41 = .ok (.goto (-38), 3) := by decide +kernel
theorem d44 : decode yB 44 = .ok (.iload 4, 2) := by decide +kernel
theorem d46 : decode yB 46 = .ok (.ireturn, 1) := by decide +kernel
def site : List Cond := []
def tab : Cond := tabOf yN yB 7 (some .int) site
def P (b : Addr) (A : Cell) (d : Addr) (B : Cell) (o q len : Nat) (args : Array Value) (s : State) : Prop := args = #[.ref b, .int (Int32.ofNat o), .ref d, .int (Int32.ofNat q), .int (Int32.ofNat len)] ∧ Ch b A s ∧ Arr .byte d B s ∧ b ≠ d ∧ o + len ≤ A.slots.size ∧ q + len ≤ B.slots.size ∧ ∀ i, i < len → ¬ 255 < cv A (o + i)
def E (b : Addr) (A : Cell) (d : Addr) (B : Cell) (o q len : Nat) (r : Option Value) (s u : State) : Prop := r = some (.int (Int32.ofNat len)) ∧ ∃ B', Put d B' s u ∧ Laid B B' q (q + len) (fun j => Value.int (lo8 (cv A (o + (j - q)))))
/-- no char of the range above 255: len; the places written hold each char's low byte -/
theorem law (l : Launch) (b : Addr) (A : Cell) (d : Addr) (B : Cell) (o q len : Nat) : Law l yN 5 5 0 0 yB 7 (some .int) site (P b A d B o q len) (E b A d B o q len) (copyLocs d q len) 0 0 := by
  refine Law.of_walk (plainFor_of_name (by decide +kernel)) (by decide +kernel) (by decide +kernel) (by decide) (fun _ _ h => by rw [h.1]; rfl) (fun _ U U' hal hh h => ⟨h.1, h.2.1.mv hal hh, h.2.2.1.mv hal hh, h.2.2.2⟩) (fun r U U' V V' h1 hal h2 h => ⟨h.1, h.2.elim fun B' q => ⟨B', q.1.mv h1 h2, q.2⟩⟩) ?_
  intro p e s m args below meth c s₁ X0 hexec hbytes hml hret hlk hnm hown hh0 W hP
  obtain ⟨rfl, hA, hB, hne, l1, l2, hp⟩ := hP
  have c1 : Steps p.tables e below (s₁.setTop (entryFrame m #[.ref b, .int (Int32.ofNat o), .ref d, .int (Int32.ofNat q), .int (Int32.ofNat len)] 7)) (s₁.setTop (mkF m 0 #[.val (.ref b), .val (.int (Int32.ofNat o)), .val (.ref d), .val (.int (Int32.ofNat q)), .val (.int (Int32.ofNat len)), .unset, .unset] [])) := entry rfl
  have hA0 := hA.1.mv X0.warmed.alike hh0
  have hB0 := hB.mv X0.warmed.alike hh0
  have a31 := hA.1.2.2.2
  have c2 : Steps p.tables e below (s₁.setTop (entryFrame m #[.ref b, .int (Int32.ofNat o), .ref d, .int (Int32.ofNat q), .int (Int32.ofNat len)] 7)) (s₁.setTop (mkF m 3 #[.val (.ref b), .val (.int (Int32.ofNat o)), .val (.ref d), .val (.int (Int32.ofNat q)), .val (.int (Int32.ofNat len)), .val (.int 0), .unset] [])) := c1.trans (by
    refine iconstV X0.here hexec rfl 0 (hb hbytes d0) (by decide) ?_
    refine XS.istore X0.here hexec rfl (hb hbytes d1) rfl rfl ?_
    exact Steps.refl _)
  have loop : ∀ (r i : Nat), i + r = len → ∀ (z : Slot), (z = .unset ∨ ∃ w, z = .val w ∧ w.category = 1) → ∀ (Tl : State) (Bk : Cell), Stand p l e { frames := 0, locals := 0, cells := 0, slots := 0 } s m #[.ref b, .int (Int32.ofNat o), .ref d, .int (Int32.ofNat q), .int (Int32.ofNat len)] below meth c Tl ([] ++ copyLocs d q i) 0 0 → Put d Bk s₁ Tl → Laid B Bk q (q + i) (fun j => Value.int (lo8 (cv A (o + (j - q))))) →
      Steps p.tables e below (s₁.setTop (entryFrame m #[.ref b, .int (Int32.ofNat o), .ref d, .int (Int32.ofNat q), .int (Int32.ofNat len)] 7)) (Tl.setTop (mkF m 3 #[.val (.ref b), .val (.int (Int32.ofNat (o + i))), .val (.ref d), .val (.int (Int32.ofNat (q + i))), .val (.int (Int32.ofNat len)), .val (.int (Int32.ofNat i)), z] [])) → ∃ (T' : State) (B' : Cell) (z' : Slot), Stand p l e { frames := 0, locals := 0, cells := 0, slots := 0 } s m #[.ref b, .int (Int32.ofNat o), .ref d, .int (Int32.ofNat q), .int (Int32.ofNat len)] below meth c T' ([] ++ copyLocs d q len) 0 0 ∧ Put d B' s₁ T' ∧ Laid B B' q (q + len) (fun j => Value.int (lo8 (cv A (o + (j - q))))) ∧
      Steps p.tables e below (s₁.setTop (entryFrame m #[.ref b, .int (Int32.ofNat o), .ref d, .int (Int32.ofNat q), .int (Int32.ofNat len)] 7)) (T'.setTop (mkF m 3 #[.val (.ref b), .val (.int (Int32.ofNat (o + len))), .val (.ref d), .val (.int (Int32.ofNat (q + len))), .val (.int (Int32.ofNat len)), .val (.int (Int32.ofNat len)), z'] [])) := by
    intro r
    induction r with
    | zero =>
      intro i hi z hz Tl Bk Xl pl fl cl
      have hil : i = len := by omega
      rw [hil] at Xl fl cl
      exact ⟨Tl, Bk, z, Xl, pl, fl, cl⟩
    | succ r ih =>
      intro i hi z hz Tl Bk Xl pl fl cl
      have all := X0.warmed.alike.symm.trans Xl.warmed.alike
      have hAl := hA0.keep all (pl.other hne hA0.1)
      have hBk := hB0.like all pl.1 fl.1 fl.2.1 fl.2.2.1
      have hlt : q + i < Bk.slots.size := by rw [fl.2.2.1]; omega
      have c3 : Steps p.tables e below (s₁.setTop (entryFrame m #[.ref b, .int (Int32.ofNat o), .ref d, .int (Int32.ofNat q), .int (Int32.ofNat len)] 7)) (Tl.setTop (mkF m 12 #[.val (.ref b), .val (.int (Int32.ofNat (o + i))), .val (.ref d), .val (.int (Int32.ofNat (q + i))), .val (.int (Int32.ofNat len)), .val (.int (Int32.ofNat i)), z] [.int (Int32.ofNat (o + i)), .ref b])) := cl.trans (by
        refine XS.iload Xl.here hexec rfl (hb hbytes d3) rfl ?_
        refine XS.iload Xl.here hexec rfl (hb hbytes d5) rfl ?_
        refine XS.icmpNo Xl.here hexec rfl (hb hbytes d7) rfl (ii_ge_f (lt32 (by omega) (by omega))) ?_
        refine XS.aloadN Xl.here hexec rfl (hb hbytes d10) rfl rfl ?_
        refine XS.iloadN Xl.here hexec rfl (hb hbytes d11) rfl ?_
        exact Steps.refl _)
      have c4 : Steps p.tables e below (s₁.setTop (entryFrame m #[.ref b, .int (Int32.ofNat o), .ref d, .int (Int32.ofNat q), .int (Int32.ofNat len)] 7)) (Tl.setTop (mkF m 13 #[.val (.ref b), .val (.int (Int32.ofNat (o + i))), .val (.ref d), .val (.int (Int32.ofNat (q + i))), .val (.int (Int32.ofNat len)), .val (.int (Int32.ofNat i)), z] [.int (cv A (o + i))])) := c3.trans (by
        refine Xl.aget hexec hAl rfl (hA.get (i := o + i) (by omega)) rfl rfl (hb hbytes d12) ?_
        exact Steps.refl _)
      have c5 : Steps p.tables e below (s₁.setTop (entryFrame m #[.ref b, .int (Int32.ofNat o), .ref d, .int (Int32.ofNat q), .int (Int32.ofNat len)] 7)) (Tl.setTop (mkF m 15 #[.val (.ref b), .val (.int (Int32.ofNat (o + i))), .val (.ref d), .val (.int (Int32.ofNat (q + i))), .val (.int (Int32.ofNat len)), .val (.int (Int32.ofNat i)), .val (.int (cv A (o + i)))] [])) := c4.trans (by
        refine XS.istoreS Xl.here hexec rfl (hb hbytes d13) rfl rfl hz ?_
        exact Steps.refl _)
      have c6 : Steps p.tables e below (s₁.setTop (entryFrame m #[.ref b, .int (Int32.ofNat o), .ref d, .int (Int32.ofNat q), .int (Int32.ofNat len)] 7)) (Tl.setTop (mkF m 31 #[.val (.ref b), .val (.int (Int32.ofNat (o + i))), .val (.ref d), .val (.int (Int32.ofNat (q + i))), .val (.int (Int32.ofNat len)), .val (.int (Int32.ofNat i)), .val (.int (cv A (o + i)))] [.int (lo8 (cv A (o + i))), .int (Int32.ofNat (q + i)), .ref d])) := c5.trans (by
        refine XS.iload Xl.here hexec rfl (hb hbytes d15) rfl ?_
        refine sipushV Xl.here hexec rfl 255 (hb hbytes d17) (by decide) ?_
        refine XS.icmpYes Xl.here hexec rfl (pc0 := 20) rfl (hb hbytes d20) rfl (ii_le_t (hp i (by omega))) (by decide) rfl ?_
        refine XS.aloadN Xl.here hexec rfl (hb hbytes d26) rfl rfl ?_
        refine XS.iloadN Xl.here hexec rfl (hb hbytes d27) rfl ?_
        refine XS.iload Xl.here hexec rfl (hb hbytes d28) rfl ?_
        refine i2b Xl.here hexec rfl (hb hbytes d30) rfl ?_
        exact Steps.refl _)
      obtain ⟨T7, X7, p7, st7⟩ := Xl.aput hexec hBk rfl hlt rfl (fits_lo8 (cv A (o + i))) (g := (mkF m 31 #[.val (.ref b), .val (.int (Int32.ofNat (o + i))), .val (.ref d), .val (.int (Int32.ofNat (q + i))), .val (.int (Int32.ofNat len)), .val (.int (Int32.ofNat i)), .val (.int (cv A (o + i)))] [.int (lo8 (cv A (o + i))), .int (Int32.ofNat (q + i)), .ref d])) rfl (rest := []) rfl (hb hbytes d31)
      have c8 : Steps p.tables e below (s₁.setTop (entryFrame m #[.ref b, .int (Int32.ofNat o), .ref d, .int (Int32.ofNat q), .int (Int32.ofNat len)] 7)) (T7.setTop (mkF m 32 #[.val (.ref b), .val (.int (Int32.ofNat (o + i))), .val (.ref d), .val (.int (Int32.ofNat (q + i))), .val (.int (Int32.ofNat len)), .val (.int (Int32.ofNat i)), .val (.int (cv A (o + i)))] [])) := c6.trans (st7 _ (Steps.refl _))
      have c9 : Steps p.tables e below (s₁.setTop (entryFrame m #[.ref b, .int (Int32.ofNat o), .ref d, .int (Int32.ofNat q), .int (Int32.ofNat len)] 7)) (T7.setTop (mkF m 3 #[.val (.ref b), .val (.int (Int32.ofNat (o + i) + 1)), .val (.ref d), .val (.int (Int32.ofNat (q + i) + 1)), .val (.int (Int32.ofNat len)), .val (.int (Int32.ofNat i + 1)), .val (.int (cv A (o + i)))] [])) := c8.trans (by
        refine iincV X7.here hexec rfl 1 (hb hbytes d32) (by decide) rfl rfl ?_
        refine iincV X7.here hexec rfl 1 (hb hbytes d35) (by decide) rfl rfl ?_
        refine iincV X7.here hexec rfl 1 (hb hbytes d38) (by decide) rfl rfl ?_
        refine XS.goto X7.here hexec rfl (pc0 := 41) rfl (hb hbytes d41) (by decide) rfl ?_
        exact Steps.refl _)
      have c10 : Steps p.tables e below (s₁.setTop (entryFrame m #[.ref b, .int (Int32.ofNat o), .ref d, .int (Int32.ofNat q), .int (Int32.ofNat len)] 7)) (T7.setTop (mkF m 3 #[.val (.ref b), .val (.int (Int32.ofNat (o + (i + 1)))), .val (.ref d), .val (.int (Int32.ofNat (q + (i + 1)))), .val (.int (Int32.ofNat len)), .val (.int (Int32.ofNat (i + 1))), .val (.int (cv A (o + i)))] [])) := by
        have := c9
        rw [succ32, succ32, succ32] at this
        exact this
      exact ih (i + 1) (by omega) _ (Or.inr ⟨_, rfl, rfl⟩) T7 _ (by rw [copyLocs_step, ← List.append_assoc]; exact X7) (pl.trans p7) (fl.step (by omega) hlt (by simp)) c10
  obtain ⟨T9, B9, z9, X9, p9, f9, g9⟩ := loop len 0 (by omega) .unset (Or.inl rfl) s₁ B (by simpa [copyLocs] using X0) ⟨hB0.1, fun _ _ => rfl, rfl⟩ (Laid.zero _ _ _) c2
  have c11 : Steps p.tables e below (s₁.setTop (entryFrame m #[.ref b, .int (Int32.ofNat o), .ref d, .int (Int32.ofNat q), .int (Int32.ofNat len)] 7)) (T9.setTop (mkF m 46 #[.val (.ref b), .val (.int (Int32.ofNat (o + len))), .val (.ref d), .val (.int (Int32.ofNat (q + len))), .val (.int (Int32.ofNat len)), .val (.int (Int32.ofNat len)), z9] [.int (Int32.ofNat len)])) := g9.trans (by
    refine XS.iload X9.here hexec rfl (hb hbytes d3) rfl ?_
    refine XS.iload X9.here hexec rfl (hb hbytes d5) rfl ?_
    refine XS.icmpYes X9.here hexec rfl (pc0 := 7) rfl (hb hbytes d7) rfl (ii_ge_t (nlt32 (by omega) (Nat.le_refl _))) (by decide) rfl ?_
    refine XS.iload X9.here hexec rfl (hb hbytes d44) rfl ?_
    exact Steps.refl _)
  exact ⟨T9, some (.int (Int32.ofNat len)), _, _, _, X9, by simp, rfl, rfl, (fun h => by cases h), ⟨rfl, B9, p9.from hh0, f9⟩, fun fs hl => c11.trans (X9.ireturnOut hexec hret rfl (Or.inl rfl) (hb hbytes d46) hl)⟩
end Cmp5
namespace Cmp3
def yN : MethodName := ⟨"java/lang/StringUTF16", "compress", "([CII)[B"⟩
abbrev yB : ByteArray := jdk_52_method_16_code
theorem d0 : decode yB 0 = .ok (.iload_n 2, 1) := by decide +kernel
theorem d1 : decode yB 1 = .ok (.newarray .byte, 2) := by decide +kernel
theorem d3 : decode yB 3 = .ok (.astore_n 3, 1) := by decide +kernel
theorem d4 : decode yB 4 = .ok (.aload_n 0, 1) := by decide +kernel
theorem d5 : decode yB 5 = .ok (.iload_n 1, 1) := by decide +kernel
theorem d6 : decode yB 6 = .ok (.aload_n 3, 1) := by decide +kernel
theorem d7 : decode yB 7 = .ok (.iconst 0, 1) := by decide +kernel
theorem d8 : decode yB 8 = .ok (.iload_n 2, 1) := by decide +kernel
theorem d9 : decode yB 9 = .ok (.invokestatic 115, 3) := by decide +kernel
theorem d12 : decode yB 12 = .ok (.istore 4, 2) := by decide +kernel
theorem d14 : decode yB 14 = .ok (.iload 4, 2) := by decide +kernel
theorem d16 : decode yB 16 = .ok (.iload_n 2, 1) := by decide +kernel
theorem d17 : decode yB 17 = .ok (.if_icmp (.eq) 40, 3) := by decide +kernel
theorem d57 : decode yB 57 = .ok (.aload_n 3, 1) := by decide +kernel
theorem d58 : decode yB 58 = .ok (.areturn, 1) := by decide +kernel
def site : List Cond := [.arrayClass .byte, Cmp5.tab] ++ staticW U16 115 Cmp5.yN
def tab : Cond := tabOf yN yB 6 (some (.array .byte)) site
def P (b : Addr) (A : Cell) (o len : Nat) (args : Array Value) (s : State) : Prop := args = #[.ref b, .int (Int32.ofNat o), .int (Int32.ofNat len)] ∧ Ch b A s ∧ o + len ≤ A.slots.size ∧ len ≤ 536870912 ∧ ∀ i, i < len → ¬ 255 < cv A (o + i)
def E (b : Addr) (A : Cell) (o len : Nat) (r : Option Value) (s u : State) : Prop := NewArr .byte "[B" len (fun j => .int (lo8 (cv A (o + j)))) r s u ∧ u.heap.size = s.heap.size + 1
/-- no char of the range above 255: a new byte[] of their low bytes -/
theorem law (l : Launch) (b : Addr) (A : Cell) (o len : Nat) : Law l yN 3 3 1 18 yB 6 (some (.array .byte)) site (P b A o len) (E b A o len) [] 1 len := by
  refine Law.of_walk (plainFor_of_name (by decide +kernel)) (by decide +kernel) (by decide +kernel) (by decide) (fun _ _ h => by rw [h.1]; rfl) (fun _ U U' hal hh h => ⟨h.1, h.2.1.mv hal hh, h.2.2⟩) (fun r U U' V V' h1 hal h2 h => ⟨NewArr.mv r U U' V V' h1 hal h2 h.1, by rw [h1, h2]; exact h.2⟩) ?_
  intro p e s m args below meth c s₁ X0 hexec hbytes hml hret hlk hnm hown hh0 W hP
  obtain ⟨rfl, hA, l1, l2, hp⟩ := hP
  have a31 := hA.1.2.2.2
  have c1 : Steps p.tables e below (s₁.setTop (entryFrame m #[.ref b, .int (Int32.ofNat o), .int (Int32.ofNat len)] 6)) (s₁.setTop (mkF m 0 #[.val (.ref b), .val (.int (Int32.ofNat o)), .val (.int (Int32.ofNat len)), .unset, .unset, .unset] [])) := entry rfl
  have c2 : Steps p.tables e below (s₁.setTop (entryFrame m #[.ref b, .int (Int32.ofNat o), .int (Int32.ofNat len)] 6)) (s₁.setTop (mkF m 1 #[.val (.ref b), .val (.int (Int32.ofNat o)), .val (.int (Int32.ofNat len)), .unset, .unset, .unset] [.int (Int32.ofNat len)])) := c1.trans (by
    refine XS.iloadN X0.here hexec rfl (hb hbytes d0) rfl ?_
    exact Steps.refl _)
  obtain ⟨T3, B3, X3, ba3, bs3, bv3, bh3, bf3, st3⟩ := X0.anew hexec (atype := .byte) (wk W (.arrayClass .byte)) rfl (by show len * 1 ≤ _; omega) (by omega) (g := (mkF m 1 #[.val (.ref b), .val (.int (Int32.ofNat o)), .val (.int (Int32.ofNat len)), .unset, .unset, .unset] [.int (Int32.ofNat len)])) rfl (hb hbytes d1) (rest := []) rfl (Nat.le_refl _) (by show 0 + len ≤ len; omega)
  rw [hh0] at ba3 st3
  have kp3 : XT.Kept s T3 := (XT.Kept.of_eq hh0).push bh3
  have hA3 := hA.keep X3.warmed.alike (kp3 _ _ hA.1.1)
  have hne : b ≠ s.heap.size := hA.1.ne
  have c4 : Steps p.tables e below (s₁.setTop (entryFrame m #[.ref b, .int (Int32.ofNat o), .int (Int32.ofNat len)] 6)) (T3.setTop (mkF m 3 #[.val (.ref b), .val (.int (Int32.ofNat o)), .val (.int (Int32.ofNat len)), .unset, .unset, .unset] [.ref s.heap.size])) := c2.trans (st3 _ (Steps.refl _))
  have c5 : Steps p.tables e below (s₁.setTop (entryFrame m #[.ref b, .int (Int32.ofNat o), .int (Int32.ofNat len)] 6)) (T3.setTop (mkF m 9 #[.val (.ref b), .val (.int (Int32.ofNat o)), .val (.int (Int32.ofNat len)), .val (.ref s.heap.size), .unset, .unset] [.int (Int32.ofNat len), .int 0, .ref s.heap.size, .int (Int32.ofNat o), .ref b])) := c4.trans (by
    refine XS.astoreN X3.here hexec rfl (hb hbytes d3) rfl rfl rfl ?_
    refine XS.aloadN X3.here hexec rfl (hb hbytes d4) rfl rfl ?_
    refine XS.iloadN X3.here hexec rfl (hb hbytes d5) rfl ?_
    refine XS.aloadN X3.here hexec rfl (hb hbytes d6) rfl rfl ?_
    refine iconstV X3.here hexec rfl 0 (hb hbytes d7) (by decide) ?_
    refine XS.iloadN X3.here hexec rfl (hb hbytes d8) rfl ?_
    exact Steps.refl _)
  obtain ⟨v6, T6, X6, E6, g6⟩ := X3.callS hexec (Cmp5.law l b A s.heap.size B3 o 0 len) hown (wks W (staticW U16 115 Cmp5.yN)) (wk W Cmp5.tab) (W := 0) (Nat.le_of_ble_eq_true rfl) (Nat.le_of_ble_eq_true rfl) (Nat.le_refl _) (by show 0 + len + 0 ≤ len; omega) (g := (mkF m 9 #[.val (.ref b), .val (.int (Int32.ofNat o)), .val (.int (Int32.ofNat len)), .val (.ref s.heap.size), .unset, .unset] [.int (Int32.ofNat len), .int (Int32.ofNat 0), .ref s.heap.size, .int (Int32.ofNat o), .ref b])) rfl (by rw [hml]; rfl) c5 (argsL := [.ref b, .int (Int32.ofNat o), .ref s.heap.size, .int (Int32.ofNat 0), .int (Int32.ofNat len)]) (rest := []) rfl rfl (by show 2 * 0 + 0 ≤ _; decide) (hb hbytes d9) (⟨rfl, hA3, ba3, hne, l1, by rw [bs3]; simp, hp⟩)
  obtain ⟨rfl, B6, p6, f6⟩ := E6
  have c7 : Steps p.tables e below (s₁.setTop (entryFrame m #[.ref b, .int (Int32.ofNat o), .int (Int32.ofNat len)] 6)) (T6.setTop (mkF m 12 #[.val (.ref b), .val (.int (Int32.ofNat o)), .val (.int (Int32.ofNat len)), .val (.ref s.heap.size), .unset, .unset] [.int (Int32.ofNat len)])) := g6
  have c8 : Steps p.tables e below (s₁.setTop (entryFrame m #[.ref b, .int (Int32.ofNat o), .int (Int32.ofNat len)] 6)) (T6.setTop (mkF m 58 #[.val (.ref b), .val (.int (Int32.ofNat o)), .val (.int (Int32.ofNat len)), .val (.ref s.heap.size), .val (.int (Int32.ofNat len)), .unset] [.ref s.heap.size])) := c7.trans (by
    refine XS.istore X6.here hexec rfl (hb hbytes d12) rfl rfl ?_
    refine XS.iload X6.here hexec rfl (hb hbytes d14) rfl ?_
    refine XS.iloadN X6.here hexec rfl (hb hbytes d16) rfl ?_
    refine XS.icmpYes X6.here hexec rfl (pc0 := 17) rfl (hb hbytes d17) rfl (ii_eq_t rfl) (by decide) rfl ?_
    refine XS.aloadN X6.here hexec rfl (hb hbytes d57) rfl rfl ?_
    exact Steps.refl _)
  have X8 := X6.wide (L' := []) (cells' := 1) (slots' := len) (fun x hx hlt => by
    simp only [List.nil_append, copyLocs, List.mem_map, List.mem_range] at hx
    obtain ⟨i, -, rfl⟩ := hx
    exact absurd hlt (Nat.lt_irrefl _)) (Nat.le_refl _) (by omega)
  exact ⟨T6, some (.ref s.heap.size), _, _, _, X8, rfl, rfl, rfl, (fun h => by cases h), ⟨⟨rfl, B6, ba3.like (X3.warmed.alike.symm.trans X6.warmed.alike) p6.1 f6.1 f6.2.1 f6.2.2.1, f6.2.1.trans bv3, by rw [X6.warmed.alike.findClass, f6.1]; exact bf3, by rw [f6.2.2.1, bs3]; simp, fun j hj => by rw [f6.2.2.2 j, if_pos (by omega)]; rfl, kp3.put p6 (Nat.le_refl _)⟩, by rw [p6.2.2, bh3, hh0]; simp⟩, fun fs hl => c8.trans (X8.areturnOut hexec rfl hret rfl (hb hbytes d58) hl)⟩
end Cmp3
namespace CodL
def yN : MethodName := ⟨"java/lang/StringUTF16", "coderFromArrayLen", "([BI)B"⟩
abbrev yB : ByteArray := jdk_52_method_15_code
theorem d0 : decode yB 0 = .ok (.iload_n 1, 1) := by decide +kernel
theorem d1 : decode yB 1 = .ok (.aload_n 0, 1) := by decide +kernel
theorem d2 : decode yB 2 = .ok (.arraylength, 1) := by decide +kernel
theorem d3 : decode yB 3 = .ok (.isub, 1) := by decide +kernel
theorem d4 : decode yB 4 = .ok (.bipush 31, 2) := by decide +kernel
theorem d6 : decode yB 6 = .ok (.iushr, 1) := by decide +kernel
theorem d7 : decode yB 7 = .ok (.i2b, 1) := by decide +kernel
theorem d8 : decode yB 8 = .ok (.ireturn, 1) := by decide +kernel
def site : List Cond := []
def tab : Cond := tabOf yN yB 2 (some .byte) site
def P (d : Addr) (B : Cell) (args : Array Value) (s : State) : Prop := args = #[.ref d, .int (Int32.ofNat B.slots.size)] ∧ Arr .byte d B s
def E (r : Option Value) (s u : State) : Prop := XT.PureE (some (.int 0)) r s u
/-- an array as long as the number of chars: LATIN1 -/
theorem law (l : Launch) (d : Addr) (B : Cell) : Law l yN 2 2 0 0 yB 2 (some .byte) site (P d B) E [] 0 0 := by
  refine Law.of_walk (plainFor_of_name (by decide +kernel)) (by decide +kernel) (by decide +kernel) (by decide) (fun _ _ h => by rw [h.1]; rfl) (fun _ U U' hal hh h => ⟨h.1, h.2.mv hal hh⟩) (fun r U U' V V' h1 hal h2 h => XT.PureE.mv r U U' V V' h1 hal h2 h) ?_
  intro p e s m args below meth c s₁ X0 hexec hbytes hml hret hlk hnm hown hh0 W hP
  obtain ⟨rfl, hB⟩ := hP
  have hB0 := hB.mv X0.warmed.alike hh0
  have c1 : Steps p.tables e below (s₁.setTop (entryFrame m #[.ref d, .int (Int32.ofNat B.slots.size)] 2)) (s₁.setTop (mkF m 0 #[.val (.ref d), .val (.int (Int32.ofNat B.slots.size))] [])) := entry rfl
  have c2 : Steps p.tables e below (s₁.setTop (entryFrame m #[.ref d, .int (Int32.ofNat B.slots.size)] 2)) (s₁.setTop (mkF m 2 #[.val (.ref d), .val (.int (Int32.ofNat B.slots.size))] [.ref d, .int (Int32.ofNat B.slots.size)])) := c1.trans (by
    refine XS.iloadN X0.here hexec rfl (hb hbytes d0) rfl ?_
    refine XS.aloadN X0.here hexec rfl (hb hbytes d1) rfl rfl ?_
    exact Steps.refl _)
  have c3 : Steps p.tables e below (s₁.setTop (entryFrame m #[.ref d, .int (Int32.ofNat B.slots.size)] 2)) (s₁.setTop (mkF m 8 #[.val (.ref d), .val (.int (Int32.ofNat B.slots.size))] [.int (lo8 (ushr (Int32.ofNat B.slots.size - Int32.ofNat B.slots.size) 31))])) := c2.trans (by
    refine X0.alen hexec hB0 rfl rfl (hb hbytes d2) ?_
    refine XS.isub X0.here hexec rfl (hb hbytes d3) rfl ?_
    refine bipushV X0.here hexec rfl 31 (hb hbytes d4) (by decide) ?_
    refine iushr X0.here hexec rfl (hb hbytes d6) rfl ?_
    refine i2b X0.here hexec rfl (hb hbytes d7) rfl ?_
    exact Steps.refl _)
  have e0 : lo8 (ushr (Int32.ofNat B.slots.size - Int32.ofNat B.slots.size) 31) = 0 := by rw [Int32.sub_self]; decide
  rw [e0] at c3
  exact ⟨s₁, some (.int 0), _, _, _, X0, rfl, rfl, rfl, (fun h => by cases h), ⟨rfl, hh0⟩, fun fs hl => c3.trans (X0.ireturnOut hexec hret rfl (Or.inr (Or.inr (Or.inl rfl))) (hb hbytes d8) hl)⟩
end CodL
/-- the String at a is Latin-1 over a new byte[] (the heap's one new cell): the low bytes of the len chars of A from o on; every cell but a is kept -/
def Got (a : Addr) (D : Cell) (fV fC : Field) (A : Cell) (o len : Nat) (r : Option Value) (s u : State) : Prop := r = none ∧ ∃ D' V : Cell, Blank "java/lang/String" a D' u ∧ Same D D' [fV.slot, fC.slot] ∧ D'.slots[fV.slot]? = some (.ref s.heap.size) ∧ D'.slots[fC.slot]? = some (.int 0) ∧ Arr .byte s.heap.size V u ∧ V.vm = .none ∧ u.vm.findClass "[B" = some V.cls ∧ V.slots.size = len ∧ (∀ j, j < len → V.slots[j]? = some (.int (lo8 (cv A (o + j))))) ∧ (∀ (y : Addr) (c : Cell), y ≠ a → s.heap[y]? = some c → u.heap[y]? = some c) ∧ u.heap.size = s.heap.size + 1
theorem Got.mv {a : Addr} {D A : Cell} {fV fC : Field} {o len : Nat} : ∀ r (U U' V V' : State), U'.heap = U.heap → V.vm.Alike V'.vm → V'.heap = V.heap → Got a D fV fC A o len r U V → Got a D fV fC A o len r U' V' :=
  fun r U U' V V' h1 hal h2 ⟨e0, D', X, a1, a2, a3, a4, a5, a6, a7, a8, a9, a10, a11⟩ => ⟨e0, D', X, a1.mv hal h2, a2, by rw [h1]; exact a3, a4, by rw [h1]; exact a5.mv hal h2, a6, by rw [hal.findClass]; exact a7, a8, a9, by rw [h1, h2]; exact a10, by rw [h1, h2]; exact a11⟩
namespace New4
def yN : MethodName := ⟨"java/lang/String", "<init>", "([CIILjava/lang/Void;)V"⟩
abbrev yB : ByteArray := jdk_42_method_149_code
theorem d0 : decode yB 0 = .ok (.aload_n 0, 1) := by decide +kernel
theorem d1 : decode yB 1 = .ok (.invokespecial 1, 3) := by decide +kernel
theorem d4 : decode yB 4 = .ok (.iload_n 3, 1) := by decide +kernel
theorem d5 : decode yB 5 = .ok (.ifCond (.ne) 22, 3) := by decide +kernel
theorem d27 : decode yB 27 = .ok (.getstatic 38, 3) := by decide +kernel
theorem d30 : decode yB 30 = .ok (.ifCond (.eq) 28, 3) := by decide +kernel
theorem d33 : decode yB 33 = .ok (.aload_n 1, 1) := by decide +kernel
theorem d34 : decode yB 34 = .ok (.iload_n 2, 1) := by decide +kernel
theorem d35 : decode yB 35 = .ok (.iload_n 3, 1) := by decide +kernel
theorem d36 : decode yB 36 = .ok (.invokestatic 177, 3) := by decide +kernel
theorem d39 : decode yB 39 = .ok (.astore 5, 2) := by decide +kernel
theorem d41 : decode yB 41 = .ok (.aload_n 0, 1) := by decide +kernel
theorem d42 : decode yB 42 = .ok (.aload 5, 2) := by decide +kernel
theorem d44 : decode yB 44 = .ok (.iload_n 3, 1) := by decide +kernel
theorem d45 : decode yB 45 = .ok (.invokestatic 47, 3) := by decide +kernel
theorem d48 : decode yB 48 = .ok (.putfield 15, 3) := by decide +kernel
theorem d51 : decode yB 51 = .ok (.aload_n 0, 1) := by decide +kernel
theorem d52 : decode yB 52 = .ok (.aload 5, 2) := by decide +kernel
theorem d54 : decode yB 54 = .ok (.putfield 9, 3) := by decide +kernel
theorem d57 : decode yB 57 = .ok (.return_, 1) := by decide +kernel
def site : List Cond := [.fieldLink "java/lang/String" 38 "java/lang/String" "COMPACT_STRINGS" "Z", Cmp3.tab, CodL.tab, .laysFinal "java/lang/String" "java/lang/String" "value" "[B", .fieldLink "java/lang/String" 9 "java/lang/String" "value" "[B", .laysFinal "java/lang/String" "java/lang/String" "coder" "B", .fieldLink "java/lang/String" 15 "java/lang/String" "coder" "B"] ++ objW "java/lang/String" 1 ++ staticW "java/lang/String" 177 Cmp3.yN ++ staticW "java/lang/String" 47 CodL.yN
def tab : Cond := tabOf yN yB 6 none site
def P (a : Addr) (D : Cell) (fV fC : Field) (b : Addr) (A : Cell) (z : Int32) (o len : Nat) (args : Array Value) (s : State) : Prop := args = #[.ref a, .ref b, .int (Int32.ofNat o), .int (Int32.ofNat len), .null] ∧ Blank "java/lang/String" a D s ∧ Found "java/lang/String" "value" "[B" fV s ∧ Found "java/lang/String" "coder" "B" fC s ∧ Ch b A s ∧ StaticIs s "java/lang/String" "COMPACT_STRINGS" "Z" (.int z) ∧ ¬ z = 0 ∧ 0 < len ∧ o + len ≤ A.slots.size ∧ len ≤ 536870912 ∧ ∀ i, i < len → ¬ 255 < cv A (o + i)
def E (a : Addr) (D : Cell) (fV fC : Field) (A : Cell) (o len : Nat) (r : Option Value) (s u : State) : Prop := Got a D fV fC A o len r s u
/-- len > 0, no char of the range above 255: a Latin-1 String of their low bytes -/
theorem law (l : Launch) (a : Addr) (D : Cell) (fV fC : Field) (b : Addr) (A : Cell) (z : Int32) (o len : Nat) : Law l yN 5 4 2 35 yB 6 none site (P a D fV fC b A z o len) (E a D fV fC A o len) [⟨a, fC.slot⟩, ⟨a, fV.slot⟩] 1 len := by
  refine Law.of_walk (plainFor_of_name (by decide +kernel)) (by decide +kernel) (by decide +kernel) (by decide) (fun _ _ h => by rw [h.1]; rfl) (fun _ U U' hal hh h => ⟨h.1, h.2.1.mv hal hh, h.2.2.1.al hal, h.2.2.2.1.al hal, h.2.2.2.2.1.mv hal hh, h.2.2.2.2.2.1.there hal hh, h.2.2.2.2.2.2⟩) (fun r U U' V V' h1 hal h2 h => Got.mv r U U' V V' h1 hal h2 h) ?_
  intro p e s m args below meth c s₁ X0 hexec hbytes hml hret hlk hnm hown hh0 W hP
  obtain ⟨rfl, hB, f1, f2, hA, s1, hz, l0, l1, l2, hp⟩ := hP
  have a31 := hA.1.2.2.2
  have c1 : Steps p.tables e below (s₁.setTop (entryFrame m #[.ref a, .ref b, .int (Int32.ofNat o), .int (Int32.ofNat len), .null] 6)) (s₁.setTop (mkF m 0 #[.val (.ref a), .val (.ref b), .val (.int (Int32.ofNat o)), .val (.int (Int32.ofNat len)), .val .null, .unset] [])) := entry rfl
  have c2 : Steps p.tables e below (s₁.setTop (entryFrame m #[.ref a, .ref b, .int (Int32.ofNat o), .int (Int32.ofNat len), .null] 6)) (s₁.setTop (mkF m 1 #[.val (.ref a), .val (.ref b), .val (.int (Int32.ofNat o)), .val (.int (Int32.ofNat len)), .val .null, .unset] [.ref a])) := c1.trans (by
    refine XS.aloadN X0.here hexec rfl (hb hbytes d0) rfl rfl ?_
    exact Steps.refl _)
  obtain ⟨T3, X3, q3, st3⟩ := X0.oinit hexec hown (wks W (objW "java/lang/String" 1)) (g := (mkF m 1 #[.val (.ref a), .val (.ref b), .val (.int (Int32.ofNat o)), .val (.int (Int32.ofNat len)), .val .null, .unset] [.ref a])) rfl (by rw [hml]; rfl) (rest := []) rfl (hb hbytes d1) (W := 0) (by show 2 * 0 + 0 ≤ _; decide) (Nat.le_of_ble_eq_true rfl) (Nat.le_of_ble_eq_true rfl)
  have hh3 := q3.trans hh0
  have c4 : Steps p.tables e below (s₁.setTop (entryFrame m #[.ref a, .ref b, .int (Int32.ofNat o), .int (Int32.ofNat len), .null] 6)) (T3.setTop (mkF m 27 #[.val (.ref a), .val (.ref b), .val (.int (Int32.ofNat o)), .val (.int (Int32.ofNat len)), .val .null, .unset] [])) := (c2.trans (st3 _ (Steps.refl _))).trans (by
    refine XS.iloadN X3.here hexec rfl (hb hbytes d4) rfl ?_
    refine XS.ifYes X3.here hexec rfl (pc0 := 5) rfl (hb hbytes d5) rfl (i0_ne_t (nz32 (by omega) l0)) (by decide) rfl ?_
    exact Steps.refl _)
  obtain ⟨T5, X5, q5, st5⟩ := X3.sget hexec hown (wk W (.fieldLink "java/lang/String" 38 "java/lang/String" "COMPACT_STRINGS" "Z")) s1 (fun _ _ h => by rw [hh3]; exact h) (g := (mkF m 27 #[.val (.ref a), .val (.ref b), .val (.int (Int32.ofNat o)), .val (.int (Int32.ofNat len)), .val .null, .unset] [])) rfl (hb hbytes d27)
  have hh5 := q5.trans hh3
  have c6 : Steps p.tables e below (s₁.setTop (entryFrame m #[.ref a, .ref b, .int (Int32.ofNat o), .int (Int32.ofNat len), .null] 6)) (T5.setTop (mkF m 30 #[.val (.ref a), .val (.ref b), .val (.int (Int32.ofNat o)), .val (.int (Int32.ofNat len)), .val .null, .unset] [.int z])) := c4.trans (st5 _ (Steps.refl _))
  have c7 : Steps p.tables e below (s₁.setTop (entryFrame m #[.ref a, .ref b, .int (Int32.ofNat o), .int (Int32.ofNat len), .null] 6)) (T5.setTop (mkF m 36 #[.val (.ref a), .val (.ref b), .val (.int (Int32.ofNat o)), .val (.int (Int32.ofNat len)), .val .null, .unset] [.int (Int32.ofNat len), .int (Int32.ofNat o), .ref b])) := c6.trans (by
    refine XS.ifNo X5.here hexec rfl (hb hbytes d30) rfl (i0_eq_f hz) ?_
    refine XS.aloadN X5.here hexec rfl (hb hbytes d33) rfl rfl ?_
    refine XS.iloadN X5.here hexec rfl (hb hbytes d34) rfl ?_
    refine XS.iloadN X5.here hexec rfl (hb hbytes d35) rfl ?_
    exact Steps.refl _)
  obtain ⟨v8, T8, X8, E8, g8⟩ := X5.callS hexec (Cmp3.law l b A o len) hown (wks W (staticW "java/lang/String" 177 Cmp3.yN)) (wk W Cmp3.tab) (W := 0) (Nat.le_of_ble_eq_true rfl) (Nat.le_of_ble_eq_true rfl) (Nat.le_refl _) (by show 0 + len ≤ len; omega) (g := (mkF m 36 #[.val (.ref a), .val (.ref b), .val (.int (Int32.ofNat o)), .val (.int (Int32.ofNat len)), .val .null, .unset] [.int (Int32.ofNat len), .int (Int32.ofNat o), .ref b])) rfl (by rw [hml]; rfl) c7 (argsL := [.ref b, .int (Int32.ofNat o), .int (Int32.ofNat len)]) (rest := []) rfl rfl (by show 2 * 0 + 0 ≤ _; decide) (hb hbytes d36) (⟨rfl, hA.mv X5.warmed.alike hh5, l1, l2, hp⟩)
  obtain ⟨e8, z8⟩ := E8
  obtain ⟨rfl, N, n1, n2, n3, n4, n5, n6⟩ := NewArr.mv _ T5 s _ _ hh5.symm (Vm.Alike.refl _) rfl e8
  rw [hh5] at z8
  have hB1 := hB.keep X8.warmed.alike (n6 _ _ hB.1)
  have hne : s.heap.size ≠ a := (Nat.ne_of_lt (Array.getElem?_eq_some_iff.mp hB.1).1).symm
  have c9 : Steps p.tables e below (s₁.setTop (entryFrame m #[.ref a, .ref b, .int (Int32.ofNat o), .int (Int32.ofNat len), .null] 6)) (T8.setTop (mkF m 39 #[.val (.ref a), .val (.ref b), .val (.int (Int32.ofNat o)), .val (.int (Int32.ofNat len)), .val .null, .unset] [.ref s.heap.size])) := g8
  have c10 : Steps p.tables e below (s₁.setTop (entryFrame m #[.ref a, .ref b, .int (Int32.ofNat o), .int (Int32.ofNat len), .null] 6)) (T8.setTop (mkF m 45 #[.val (.ref a), .val (.ref b), .val (.int (Int32.ofNat o)), .val (.int (Int32.ofNat len)), .val .null, .val (.ref s.heap.size)] [.int (Int32.ofNat N.slots.size), .ref s.heap.size, .ref a])) := by
    have hc : Steps p.tables e below (s₁.setTop (entryFrame m #[.ref a, .ref b, .int (Int32.ofNat o), .int (Int32.ofNat len), .null] 6)) (T8.setTop (mkF m 45 #[.val (.ref a), .val (.ref b), .val (.int (Int32.ofNat o)), .val (.int (Int32.ofNat len)), .val .null, .val (.ref s.heap.size)] [.int (Int32.ofNat len), .ref s.heap.size, .ref a])) := c9.trans (by
      refine XS.astore X8.here hexec rfl (hb hbytes d39) rfl rfl rfl ?_
      refine XS.aloadN X8.here hexec rfl (hb hbytes d41) rfl rfl ?_
      refine XS.aload X8.here hexec rfl (hb hbytes d42) rfl rfl ?_
      refine XS.iloadN X8.here hexec rfl (hb hbytes d44) rfl ?_
      exact Steps.refl _)
    rw [n4]; exact hc
  obtain ⟨v11, T11, X11, E11, g11⟩ := X8.callS hexec (CodL.law l s.heap.size N) hown (wks W (staticW "java/lang/String" 47 CodL.yN)) (wk W CodL.tab) (W := 1) (Nat.le_of_ble_eq_true rfl) (Nat.le_of_ble_eq_true rfl) (Nat.le_refl _) (by show 0 + len + 0 ≤ len; omega) (g := (mkF m 45 #[.val (.ref a), .val (.ref b), .val (.int (Int32.ofNat o)), .val (.int (Int32.ofNat len)), .val .null, .val (.ref s.heap.size)] [.int (Int32.ofNat N.slots.size), .ref s.heap.size, .ref a])) rfl (by rw [hml]; rfl) c10 (argsL := [.ref s.heap.size, .int (Int32.ofNat N.slots.size)]) (rest := [.ref a]) rfl rfl (by show 2 * 0 + (1 + 0) ≤ _; decide) (hb hbytes d45) (⟨rfl, n1⟩)
  obtain ⟨rfl, q11⟩ := E11
  have hB11 := hB1.mv (X8.warmed.alike.symm.trans X11.warmed.alike) q11
  have c12 : Steps p.tables e below (s₁.setTop (entryFrame m #[.ref a, .ref b, .int (Int32.ofNat o), .int (Int32.ofNat len), .null] 6)) (T11.setTop (mkF m 48 #[.val (.ref a), .val (.ref b), .val (.int (Int32.ofNat o)), .val (.int (Int32.ofNat len)), .val .null, .val (.ref s.heap.size)] [.int 0, .ref a])) := g11
  obtain ⟨T13, X13, p13, bl13, sl13, st13⟩ := X11.finit hexec hown (wk W (.fieldLink "java/lang/String" 15 "java/lang/String" "coder" "B")) (Or.inr ⟨_, (wk W (.laysFinal "java/lang/String" "java/lang/String" "coder" "B"))⟩) (Or.inl ⟨rfl, hnm⟩) f2 (Or.inl rfl) hB11 (t := .byte) (by decide +kernel) rfl (g := (mkF m 48 #[.val (.ref a), .val (.ref b), .val (.int (Int32.ofNat o)), .val (.int (Int32.ofNat len)), .val .null, .val (.ref s.heap.size)] [.int 0, .ref a])) rfl (rest := []) rfl (hb hbytes d48)
  have c14 : Steps p.tables e below (s₁.setTop (entryFrame m #[.ref a, .ref b, .int (Int32.ofNat o), .int (Int32.ofNat len), .null] 6)) (T13.setTop (mkF m 54 #[.val (.ref a), .val (.ref b), .val (.int (Int32.ofNat o)), .val (.int (Int32.ofNat len)), .val .null, .val (.ref s.heap.size)] [.ref s.heap.size, .ref a])) := (c12.trans (st13 _ (Steps.refl _))).trans (by
    refine XS.aloadN X13.here hexec rfl (hb hbytes d51) rfl rfl ?_
    refine XS.aload X13.here hexec rfl (hb hbytes d52) rfl rfl ?_
    exact Steps.refl _)
  obtain ⟨T15, X15, p15, bl15, sl15, st15⟩ := X13.finit hexec hown (wk W (.fieldLink "java/lang/String" 9 "java/lang/String" "value" "[B")) (Or.inr ⟨_, (wk W (.laysFinal "java/lang/String" "java/lang/String" "value" "[B"))⟩) (Or.inl ⟨rfl, hnm⟩) f1 (Or.inl rfl) bl13 (t := (.array .byte)) (by decide +kernel) rfl (g := (mkF m 54 #[.val (.ref a), .val (.ref b), .val (.int (Int32.ofNat o)), .val (.int (Int32.ofNat len)), .val .null, .val (.ref s.heap.size)] [.ref s.heap.size, .ref a])) rfl (rest := []) rfl (hb hbytes d54)
  have c16 : Steps p.tables e below (s₁.setTop (entryFrame m #[.ref a, .ref b, .int (Int32.ofNat o), .int (Int32.ofNat len), .null] 6)) (T15.setTop (mkF m 57 #[.val (.ref a), .val (.ref b), .val (.int (Int32.ofNat o)), .val (.int (Int32.ofNat len)), .val .null, .val (.ref s.heap.size)] [])) := c14.trans (st15 _ (Steps.refl _))
  have ap := apart (Or.inr ⟨_, (wk W (.laysFinal "java/lang/String" "java/lang/String" "value" "[B"))⟩) (Or.inr ⟨_, (wk W (.laysFinal "java/lang/String" "java/lang/String" "coder" "B"))⟩) f1 f2 (t₁ := .array .byte) (t₂ := .byte) (by decide +kernel) (by decide +kernel) (by decide)
  have al := X8.warmed.alike.symm.trans X15.warmed.alike
  have n7 : T11.heap[s.heap.size]? = some N := by rw [q11]; exact n1.1
  exact ⟨T15, none, _, _, _, X15, by simp, rfl, by omega, (fun _ => rfl), ⟨rfl, _, N, bl15, ((Same.refl D _).set _ (by simp)).set _ (by simp), sl15, (Cell.slots_setSlot_ne _ ap).trans sl13, n1.keep al (p15.other hne (p13.other hne n7)), n2, by rw [al.findClass]; exact n3, n4, n5, fun y c h1 h2 => p15.other h1 (p13.other h1 (by rw [q11]; exact n6 y c h2)), by rw [p15.2.2, p13.2.2, q11]; exact z8⟩, fun fs hl => c16.trans (X15.returnOut hexec hret (hb hbytes d57) hl)⟩
end New4
namespace New1
def yN : MethodName := ⟨"java/lang/String", "<init>", "([C)V"⟩
abbrev yB : ByteArray := jdk_42_method_3_code
theorem d0 : decode yB 0 = .ok (.aload_n 0, 1) := by decide +kernel
theorem d1 : decode yB 1 = .ok (.aload_n 1, 1) := by decide +kernel
theorem d2 : decode yB 2 = .ok (.iconst 0, 1) := by decide +kernel
theorem d3 : decode yB 3 = .ok (.aload_n 1, 1) := by decide +kernel
theorem d4 : decode yB 4 = .ok (.arraylength, 1) := by decide +kernel
theorem d5 : decode yB 5 = .ok (.aconst_null, 1) := by decide +kernel
theorem d6 : decode yB 6 = .ok (.invokespecial 27, 3) := by decide +kernel
theorem d9 : decode yB 9 = .ok (.return_, 1) := by decide +kernel
def site : List Cond := [New4.tab] ++ initW "java/lang/String" 27 New4.yN
def tab : Cond := tabOf yN yB 2 none site
def P (a : Addr) (D : Cell) (fV fC : Field) (b : Addr) (A : Cell) (z : Int32) (args : Array Value) (s : State) : Prop := args = #[.ref a, .ref b] ∧ Blank "java/lang/String" a D s ∧ Found "java/lang/String" "value" "[B" fV s ∧ Found "java/lang/String" "coder" "B" fC s ∧ Ch b A s ∧ StaticIs s "java/lang/String" "COMPACT_STRINGS" "Z" (.int z) ∧ ¬ z = 0 ∧ 0 < A.slots.size ∧ A.slots.size ≤ 536870912 ∧ ∀ i, i < A.slots.size → ¬ 255 < cv A i
def E (a : Addr) (D : Cell) (fV fC : Field) (A : Cell) (r : Option Value) (s u : State) : Prop := Got a D fV fC A 0 A.slots.size r s u
/-- new String(chars), not empty, no char above 255: a Latin-1 String of their low bytes -/
theorem law (l : Launch) (a : Addr) (D : Cell) (fV fC : Field) (b : Addr) (A : Cell) (z : Int32) : Law l yN 2 1 3 52 yB 2 none site (P a D fV fC b A z) (E a D fV fC A) [⟨a, fC.slot⟩, ⟨a, fV.slot⟩] 1 A.slots.size := by
  refine Law.of_walk (plainFor_of_name (by decide +kernel)) (by decide +kernel) (by decide +kernel) (by decide) (fun _ _ h => by rw [h.1]; rfl) (fun _ U U' hal hh h => ⟨h.1, h.2.1.mv hal hh, h.2.2.1.al hal, h.2.2.2.1.al hal, h.2.2.2.2.1.mv hal hh, h.2.2.2.2.2.1.there hal hh, h.2.2.2.2.2.2⟩) (fun r U U' V V' h1 hal h2 h => Got.mv r U U' V V' h1 hal h2 h) ?_
  intro p e s m args below meth c s₁ X0 hexec hbytes hml hret hlk hnm hown hh0 W hP
  obtain ⟨rfl, hB, f1, f2, hA, s1, hz, l0, l2, hp⟩ := hP
  have c1 : Steps p.tables e below (s₁.setTop (entryFrame m #[.ref a, .ref b] 2)) (s₁.setTop (mkF m 0 #[.val (.ref a), .val (.ref b)] [])) := entry rfl
  have c2 : Steps p.tables e below (s₁.setTop (entryFrame m #[.ref a, .ref b] 2)) (s₁.setTop (mkF m 6 #[.val (.ref a), .val (.ref b)] [.null, .int (Int32.ofNat A.slots.size), .int 0, .ref b, .ref a])) := c1.trans (by
    refine XS.aloadN X0.here hexec rfl (hb hbytes d0) rfl rfl ?_
    refine XS.aloadN X0.here hexec rfl (hb hbytes d1) rfl rfl ?_
    refine iconstV X0.here hexec rfl 0 (hb hbytes d2) (by decide) ?_
    refine XS.aloadN X0.here hexec rfl (hb hbytes d3) rfl rfl ?_
    refine X0.alen hexec (hA.1.mv X0.warmed.alike hh0) rfl rfl (hb hbytes d4) ?_
    refine XS.aconstNull X0.here hexec rfl (hb hbytes d5) ?_
    exact Steps.refl _)
  obtain ⟨v3, T3, X3, E3, g3⟩ := X0.callN hexec (New4.law l a D fV fC b A z 0 A.slots.size) rfl hown (wks W (initW "java/lang/String" 27 New4.yN)) (W New4.tab (by simp only [site, List.mem_cons, List.mem_append, true_or, or_true])) (W := 0) (Nat.le_of_ble_eq_true rfl) (Nat.le_of_ble_eq_true rfl) (Nat.le_refl _) (by show 0 + A.slots.size ≤ A.slots.size; omega) (g := (mkF m 6 #[.val (.ref a), .val (.ref b)] [.null, .int (Int32.ofNat A.slots.size), .int (Int32.ofNat 0), .ref b, .ref a])) rfl (by rw [hml]; rfl) c2 (argsL := [.ref b, .int (Int32.ofNat 0), .int (Int32.ofNat A.slots.size), .null]) (rest := []) rfl rfl (by show 2 * 0 + 0 ≤ _; decide) (hb hbytes d6) (⟨rfl, hB.mv X0.warmed.alike hh0, f1.al X0.warmed.alike, f2.al X0.warmed.alike, hA.mv X0.warmed.alike hh0, s1.there X0.warmed.alike hh0, hz, l0, by omega, l2, fun i hi => by rw [Nat.zero_add]; exact hp i hi⟩)
  have e0 := Got.mv _ s₁ s _ _ hh0.symm (Vm.Alike.refl _) rfl E3
  obtain rfl := e0.1
  have c4 : Steps p.tables e below (s₁.setTop (entryFrame m #[.ref a, .ref b] 2)) (T3.setTop (mkF m 9 #[.val (.ref a), .val (.ref b)] [])) := g3
  exact ⟨T3, none, _, _, _, X3, by simp, rfl, by omega, (fun _ => rfl), e0, fun fs hl => c4.trans (X3.returnOut hexec hret (hb hbytes d9) hl)⟩
theorem pays {l : Launch} {R : Room} {p : Program} {e : Env} {below : List Frame} {s : State} {sargs : Array Value} {len W : Nat} (a : Addr) (D : Cell) (fV fC : Field) (b : Addr) (A : Cell) (z : Int32) (htab : tab.before sargs s = true) (hfr : 4 ≤ R.frames) (hlo : W + 65 ≤ R.locals) :
    Back l R p e below s sargs yN len W (fun A₁ a₁ => A₁.cells + 1 ≤ R.cells ∧ A₁.slots + A.slots.size ≤ R.slots ∧ P a D fV fC b A z a₁ A₁.U) (fun A₁ _ v₁ B₁ => E a D fV fC A v₁ A₁.U B₁.U ∧ B₁.locs = A₁.locs ++ [⟨a, fC.slot⟩, ⟨a, fV.slot⟩] ∧ B₁.cells = A₁.cells + 1 ∧ B₁.slots = A₁.slots + A.slots.size) :=
  (law l a D fV fC b A z).pays htab hfr (by omega)
end New1
end StrChars
namespace StrChars.Road
open Jvm Sem ClassFile Op Lib Jvm.Stand Jvm.Free Jvm.Free.XT
open Jvm.Lib.Cold (StaticIs)
abbrev ST : String := "java/lang/String"
/-- every table word that New1's law asks, flat -/
abbrev words : List Jvm.Cond := [.code New1.yN New1.yB 2 none, .initialized ST, .methodLink ST 27 New4.yN, .instanceMethod New4.yN,
  .code New4.yN New4.yB 6 none, .fieldLink ST 38 ST "COMPACT_STRINGS" "Z", .laysFinal ST ST "value" "[B", .fieldLink ST 9 ST "value" "[B", .laysFinal ST ST "coder" "B", .fieldLink ST 15 ST "coder" "B",
  .methodLink ST 1 Lib.objectInit, .instanceMethod Lib.objectInit, .code Lib.objectInit ⟨#[0xb1]⟩ 1 none, .methodLink ST 177 Cmp3.yN, .static Cmp3.yN, .methodLink ST 47 CodL.yN, .static CodL.yN,
  .code Cmp3.yN Cmp3.yB 6 (some (.array .byte)), .initialized U16, .arrayClass .byte, .methodLink U16 115 Cmp5.yN, .static Cmp5.yN, .code Cmp5.yN Cmp5.yB 7 (some .int), .code CodL.yN CodL.yB 2 (some .byte)]
theorem tab_of {a : Array Value} {s : State} (h : ∀ w ∈ words, w.before a s = true) : New1.tab.before a s = true := by
  have h5 : Cmp5.tab.before a s = true := unparts (wk h (.code Cmp5.yN Cmp5.yB 7 (some .int))) (wks h (.initialized Cmp5.yN.cls :: Cmp5.site))
  have hc : CodL.tab.before a s = true := unparts (wk h (.code CodL.yN CodL.yB 2 (some .byte))) (wks h (.initialized CodL.yN.cls :: CodL.site))
  have q5 : ∀ w ∈ Cmp5.tab :: words, w.before a s = true := fun w hw => (List.mem_cons.mp hw).elim (fun e => e ▸ h5) (h w)
  have h3 : Cmp3.tab.before a s = true := unparts (wk q5 (.code Cmp3.yN Cmp3.yB 6 (some (.array .byte)))) (wks q5 (.initialized Cmp3.yN.cls :: Cmp3.site))
  have q3 : ∀ w ∈ Cmp3.tab :: CodL.tab :: words, w.before a s = true := fun w hw => (List.mem_cons.mp hw).elim (fun e => e ▸ h3) fun hw => (List.mem_cons.mp hw).elim (fun e => e ▸ hc) (h w)
  have h4 : New4.tab.before a s = true := unparts (wk q3 (.code New4.yN New4.yB 6 none)) (wks q3 (.initialized New4.yN.cls :: New4.site))
  have q4 : ∀ w ∈ New4.tab :: words, w.before a s = true := fun w hw => (List.mem_cons.mp hw).elim (fun e => e ▸ h4) (h w)
  exact unparts (wk q4 (.code New1.yN New1.yB 2 none)) (wks q4 (.initialized New1.yN.cls :: New1.site))
/-- the words ride from the start Z to the walk's own state -/
theorem moved {Z s : State} {a0 args : Array Value} (hZ : Z.Warmed39 s.vm) (hw : ∀ d ∈ words, d.before a0 Z = true) : ∀ d ∈ words, d.before args s = true := fun d hd => by
  have q := hw d hd
  have t : ∀ d ∈ words, d = .arrayClass .byte ∨ (d.onTables && d.keepsFace) = true := by decide +kernel
  rcases t d hd with rfl | t
  · exact RoadKit.mvA hZ q
  · exact RoadKit.mv hZ q t
/-- WHAT COMES BACK, over the tables of the start Z: h the heap at the call, h' behind it -/
def Q (Z : State) (x : Addr) (A : Cell) (h : Heap) (v : Option Value) (h' : Heap) (L : List Loc) : Prop := v = none ∧ (∀ y ∈ L, y.base = x) ∧ RoadKit.Keep h h' [x] ∧ h'.size = h.size + 1 ∧ RoadKit.Exa Z h' x ST ∧ RoadKit.Fld Z h' x ST "value" "[B" (.ref h.size) ∧ RoadKit.Fld Z h' x ST "coder" "B" (.int 0) ∧
  (∃ V : Cell, RoadKit.Arr Z h' h.size V .byte ∧ V.vm = .none ∧ Z.vm.findClass "[B" = some V.cls ∧ V.slots.size = A.slots.size ∧ ∀ j, j < A.slots.size → V.slots[j]? = some (.int (lo8 (cv A j)))) ∧
  ∀ (O n d : String) (w : Value), RoadKit.Fld Z h x O n d w → RoadKit.slotOf Z O n d ≠ RoadKit.slotOf Z ST "value" "[B" → RoadKit.slotOf Z O n d ≠ RoadKit.slotOf Z ST "coder" "B" → RoadKit.Fld Z h' x O n d w
/-- **new String(chars) AT A CALL, IN THE ROAD'S FORM**: for specialBack behind newO: x the fresh String, b the char[] with the cell A -/
theorem back {p : Program} {l : Launch} {e : Env} {R : Room} {s : State} {args : Array Value} {below : List Frame} {len W : Nat} {Z : State} {a0 : Array Value} {h : Heap} (hZ : Z.Warmed39 s.vm) (hw : ∀ d ∈ words, d.before a0 Z = true) {kI : Nat} (wi : (Jvm.Cond.instantiable ST kI).before a0 Z = true)
    {x b : Addr} {A : Cell} {z : Int32} {v0 c0 : Value} (E : RoadKit.Exa Z h x ST) (V : RoadKit.Fld Z h x ST "value" "[B" v0) (C : RoadKit.Fld Z h x ST "coder" "B" c0) (K : RoadKit.Arr Z h b A .char) (hty : Typed .char A) (S : RoadKit.Sta Z h ST "COMPACT_STRINGS" "Z" (.int z)) (hz : ¬ z = 0)
    (l0 : 0 < A.slots.size) (l2 : A.slots.size ≤ 536870912) (hp : ∀ i, i < A.slots.size → ¬ 255 < cv A i) (hfr : 4 ≤ R.frames) (hlo : W + 65 ≤ R.locals) :
    Back l R p e below s args New1.yN len W (fun P a => a = #[.ref x, .ref b] ∧ P.U.heap = h ∧ P.cells + 1 ≤ R.cells ∧ P.slots + A.slots.size ≤ R.slots)
      (fun P _ v B => ∃ L, Q Z x A h v B.U.heap L ∧ B.locs = P.locs ++ L ∧ B.cells = P.cells + 1 ∧ B.slots = P.slots + A.slots.size) := by
  intro m meth c P g ig mk a X hg hsize hdg hW hn hp'
  obtain ⟨rfl, rfl, r1, r2⟩ := hp'
  have al : Z.vm.Alike P.U.vm := hZ.alike.trans X.warmed.alike
  obtain ⟨D, cfV, kV, iV, fV, hD, gV, stV, knV, obV, asV, slV⟩ := id V
  obtain ⟨D', cfC, kC, iC, fC, hD', gC, stC, -, -, asC, slC⟩ := id C
  cases hD.symm.trans hD'
  obtain ⟨D2, kD, e1, e2, e3, e4, e5⟩ := id E
  cases hD.symm.trans e1
  obtain ⟨c2, k2, i1, i2, i3, -⟩ := Cond.instantiable_spec wi
  cases e2.symm.trans i1
  cases e3.symm.trans i2
  obtain ⟨kU, u1, u2⟩ := al.2.2 _ _ e3
  have hB : Blank ST x D P.U := ⟨hD, ⟨knV, fun q hq => by rw [hq] at obV; cases obV⟩, by rw [al.findClass]; exact e2, kU, u1, by rw [u2]; exact i3, by rw [u2]; exact e5 i3⟩
  have F1 : Found ST "value" "[B" fV P.U := ⟨SBG.found_only al ⟨cfV, kV, iV, gV⟩, stV⟩
  have F2 : Found ST "coder" "B" fC P.U := ⟨SBG.found_only al ⟨cfC, kC, iC, gC⟩, stC⟩
  have hA : Ch b A P.U := ⟨⟨K.1, State.isArrayOf_alike al K.2.1, K.2.2, by omega⟩, hty⟩
  have hS : StaticIs P.U ST "COMPACT_STRINGS" "Z" (.int z) := by
    obtain ⟨cfS, iS, kS, fS, st, cS, t1, t2, t3, t4, t5, t6, t7⟩ := S
    exact StaticIs.there (s := { Z with heap := P.U.heap }) ⟨cfS, iS, kS, fS, st, cS, t1, t2, t3, t4, t5, (fun q => by rw [q] at t6; cases t6), t7⟩ al rfl
  obtain ⟨v, B, X', ⟨⟨hv, E', V', q1, q2, q3, q4, q5, q6, q7, q8, q9, q10, q11⟩, hl, hc, hs⟩, st⟩ := New1.pays x D fV fC b A z (tab_of (moved hZ hw)) hfr hlo m meth c P g ig mk _ X hg hsize hdg hW hn ⟨r1, r2, rfl, hB, F1, F2, hA, hS, hz, l0, l2, hp⟩
  have al' : Z.vm.Alike B.U.vm := hZ.alike.trans X'.warmed.alike
  have hsz : E'.slots.size = D.slots.size := by
    obtain ⟨-, -, -, kB, w1, w2, w3⟩ := q1
    obtain ⟨kB', y1, y2⟩ := al'.2.2 _ _ e3
    rw [q2.2.1] at w1
    cases w1.symm.trans y1
    rw [w3, e5 i3, y2]
  refine ⟨v, B, X', ⟨_, ⟨hv, ?_, ⟨by omega, fun y cy hy hn' => q10 y cy (by simpa using hn') hy, fun y cy hy => ?_⟩, q11, ⟨E', _, q1.1, by rw [q2.2.1]; exact e2, by rw [q2.2.1]; exact e3, by rw [q2.1]; exact obV, fun _ => by rw [hsz]; exact e5 i3⟩,
    ⟨E', cfV, kV, iV, fV, q1.1, gV, stV, by rw [q2.1]; exact knV, by rw [q2.1]; exact obV, by rw [q2.2.1]; exact asV, q3⟩, ⟨E', cfC, kC, iC, fC, q1.1, gC, stC, by rw [q2.1]; exact knV, by rw [q2.1]; exact obV, by rw [q2.2.1]; exact asC, q4⟩,
    ⟨V', ⟨q5.1, State.isArrayOf_alike al'.symm q5.2.1, q5.2.2.1⟩, q6, by rw [← al'.findClass]; exact q7, q8, fun j hj => by have := q9 j hj; rwa [Nat.zero_add] at this⟩, fun O n d w F n1 n2 => ?_⟩, hl, hc, hs⟩, st⟩
  · intro y hy
    simp only [List.mem_cons, List.not_mem_nil, or_false] at hy
    rcases hy with rfl | rfl <;> rfl
  · by_cases q : y = x
    · subst q
      cases hD.symm.trans hy
      exact ⟨E', q1.1, q2.2.1, q2.1, hsz⟩
    · exact ⟨cy, q10 y cy q hy, rfl, rfl, rfl⟩
  · obtain ⟨D3, cf, k, i, f, g1, g2, g3, g4, g5, g6, g7⟩ := F
    cases hD.symm.trans g1
    simp only [RoadKit.slotOf, g2, gV, gC, Option.map_some, Option.getD_some] at n1 n2
    exact ⟨E', cf, k, i, f, q1.1, g2, g3, by rw [q2.1]; exact g4, by rw [q2.1]; exact g5, by rw [q2.2.1]; exact g6, by rw [q2.2.2 f.slot (by simp [n1, n2])]; exact g7⟩
end StrChars.Road
namespace StrChars.Road
open Jvm Sem ClassFile Op Lib Jvm.Stand Jvm.Free Jvm.Free.XT
/-- WHAT COMES BACK, the byte[] as a list of values -/
def QA (Z : State) (x : Addr) (zn : Int32) (cs : List Int32) (h : Heap) (v : Option Value) (h' : Heap) (L : List Loc) : Prop := v = none ∧ (∀ y ∈ L, y.base = x) ∧ RoadKit.Keep h h' [x] ∧ h'.size = h.size + 1 ∧ RoadKit.Exa Z h' x ST ∧ RoadKit.Fld Z h' x ST "value" "[B" (.ref h.size) ∧ RoadKit.Fld Z h' x ST "coder" "B" (.int 0) ∧
  (∃ kb, Z.vm.findClass "[B" = some kb ∧ RoadKit.Arv Z h' h.size kb .byte zn (cs.map fun c => .int (lo8 c)) (.int 0)) ∧
  ∀ (O n d : String) (w : Value), RoadKit.Fld Z h x O n d w → RoadKit.slotOf Z O n d ≠ RoadKit.slotOf Z ST "value" "[B" → RoadKit.slotOf Z O n d ≠ RoadKit.slotOf Z ST "coder" "B" → RoadKit.Fld Z h' x O n d w
/-- **new String(chars) AT A CALL, THE ARRAYS AS LISTS**: the char[] at b holds cs, not empty, no char above 255 -/
theorem backArv {p : Program} {l : Launch} {e : Env} {R : Room} {s : State} {args : Array Value} {below : List Frame} {len W : Nat} {Z : State} {a0 : Array Value} {h : Heap} (hZ : Z.Warmed39 s.vm) (hw : ∀ d ∈ words, d.before a0 Z = true) {kI : Nat} (wi : (Jvm.Cond.instantiable ST kI).before a0 Z = true)
    {x b : Addr} {k : ClassId} {zn z : Int32} {cs : List Int32} {dv v0 c0 : Value} (E : RoadKit.Exa Z h x ST) (V : RoadKit.Fld Z h x ST "value" "[B" v0) (C : RoadKit.Fld Z h x ST "coder" "B" c0) (K : RoadKit.Arv Z h b k .char zn (cs.map Value.int) dv) (S : RoadKit.Sta Z h ST "COMPACT_STRINGS" "Z" (.int z)) (hz : ¬ z = 0)
    (hlen : zn.toNatClampNeg = cs.length) (h0 : 0 < cs.length) (hbig : cs.length ≤ 536870912) (hall : ∀ c ∈ cs, ¬ 255 < c) (hfr : 4 ≤ R.frames) (hlo : W + 65 ≤ R.locals) :
    Back l R p e below s args New1.yN len W (fun P a => a = #[.ref x, .ref b] ∧ P.U.heap = h ∧ P.cells + 1 ≤ R.cells ∧ P.slots + cs.length ≤ R.slots)
      (fun P _ v B => ∃ L, QA Z x zn cs h v B.U.heap L ∧ B.locs = P.locs ++ L ∧ B.cells = P.cells + 1 ∧ B.slots = P.slots + cs.length) := by
  obtain ⟨A, K1, K2, K3, K4, K5, K6⟩ := K
  have e : A.slots.size = cs.length := K3.trans hlen
  have hat : ∀ (i : Nat) (hi : i < cs.length), A.slots[i]? = some (.int cs[i]) := fun i hi => by rw [K5 i (by omega)]; simp [List.getD_eq_getElem?_getD, hi]
  have hcv : ∀ (i : Nat) (hi : i < cs.length), cv A i = cs[i] := fun i hi => by unfold cv; rw [hat i hi]
  have hty : Typed .char A := fun i v hv => by
    have hi : i < A.slots.size := (Array.getElem?_eq_some_iff.mp hv).1
    have q := K5 i hi
    rw [hv] at q
    rw [Option.some.inj q]
    exact K6 i hi
  refine Back.mono (back hZ hw wi E V C K1 hty S hz (by omega) (by omega) (fun i hi => by rw [hcv i (by omega)]; exact hall _ (List.getElem_mem _)) hfr hlo) (fun P a hp => ⟨hp.1, hp.2.1, hp.2.2.1, by rw [e]; exact hp.2.2.2⟩) (fun P a v B hp hq => ?_)
  obtain ⟨L, ⟨q1, q2, q3, q4, q5, q6, q7, ⟨V', v1, v2, v3, v4, v5⟩, q9⟩, hl, hc, hs⟩ := hq
  refine ⟨L, ⟨q1, q2, q3, q4, q5, q6, q7, ⟨V'.cls, v3, V', v1, rfl, by rw [v4, e, hlen], K4, fun i hi => ?_, fun i hi => ?_⟩, q9⟩, hl, hc, by rw [hs, e]⟩
  · have hi' : i < cs.length := by omega
    rw [v5 i (by omega), hcv i hi']; simp [List.getD_eq_getElem?_getD, hi']
  · have hi' : i < cs.length := by omega
    simp only [List.getD_eq_getElem?_getD, List.getElem?_map, List.getElem?_eq_getElem hi', Option.map_some, Option.getD_some]
    exact fits_lo8 _
end StrChars.Road
namespace StrChars.Road
open Jvm Sem ClassFile Op Lib Jvm.Stand Jvm.Free Jvm.Free.XT
/-- WHAT COMES BACK, in the writer's own shape -/
def QV (Z : State) (x : Addr) (N : Int32) (bs : List Int32) (h : Heap) (n0 : Nat) (v : Option Value) (h' : Heap) (L : List Loc) : Prop := v = none ∧ RoadKit.Fr n0 L ∧ RoadKit.Keep h h' [x] ∧ RoadKit.Exa Z h' x ST ∧ RoadKit.Fld Z h' x ST "coder" "B" (.int 0) ∧
  ∃ (t : Addr) (kb : ClassId), n0 ≤ t ∧ h.size ≤ t ∧ ¬ t = x ∧ RoadKit.Fld Z h' x ST "value" "[B" (.ref t) ∧ RoadKit.Arv Z h' t kb .byte N (bs.map Value.int) (.int 0)
/-- **new String(chars) AT A CALL, FOR THE WRITER**: a char[] of n known ints, each 0 to 255 -/
theorem backV {p : Program} {l : Launch} {e : Env} {R : Room} {s : State} {args : Array Value} {below : List Frame} {len W : Nat} {Z : State} {a0 : Array Value} {h : Heap} (hZ : Z.Warmed39 s.vm) (hw : ∀ d ∈ words, d.before a0 Z = true) {kI : Nat} (wi : (Jvm.Cond.instantiable ST kI).before a0 Z = true)
    {x b : Addr} {kC : ClassId} {cs bs : List Int32} {d v0 c0 : Value} {z N : Int32} {n n0 : Nat} (hx0 : n0 ≤ x) (hh0 : n0 ≤ h.size) (E : RoadKit.Exa Z h x ST) (V : RoadKit.Fld Z h x ST "value" "[B" v0) (C : RoadKit.Fld Z h x ST "coder" "B" c0) (K : RoadKit.Arv Z h b kC .char N (cs.map Value.int) d) (S : RoadKit.Sta Z h ST "COMPACT_STRINGS" "Z" (.int z)) (hz : ¬ z = 0)
    (hn : cs.length = n) (hN : N = Int32.ofNat n) (l0 : 0 < n) (l2 : n ≤ 4000) (hp : ∀ c ∈ cs, ¬ c < 0 ∧ ¬ (255 : Int32) < c) (hb : bs = cs.map (fun c => c.toInt8.toInt32)) (hfr : 4 ≤ R.frames) (hlo : W + 65 ≤ R.locals) :
    Back l R p e below s args (⟨"java/lang/String", "<init>", "([C)V"⟩ : MethodName) len W (fun P a => a = #[.ref x, .ref b] ∧ P.U.heap = h ∧ P.cells + 1 ≤ R.cells ∧ P.slots + n ≤ R.slots)
      (fun P _ v B => ∃ L, QV Z x N bs h n0 v B.U.heap L ∧ B.locs = P.locs ++ L ∧ B.cells = P.cells + 1 ∧ B.slots = P.slots + n) := by
  subst hn hN hb
  refine Back.mono (backArv hZ hw wi E V C K S hz (n32 (by omega)) l0 (by omega) (fun c hc => (hp c hc).2) hfr hlo) (fun P a hp => hp) (fun P a v B hp hq => ?_)
  obtain ⟨L, ⟨q1, q2, q3, q4, q5, q6, q7, ⟨kb, v1, v2⟩, q9⟩, hl, hc, hs⟩ := hq
  exact ⟨L, ⟨q1, fun y hy => by rw [q2 y hy]; exact hx0, q3, q5, q7, h.size, kb, hh0, Nat.le_refl _, Nat.ne_of_gt E.lt, q6, by rw [List.map_map]; exact v2⟩, hl, hc, hs⟩
end StrChars.Road
end Jvm.Pilot.@@N@@

namespace Jvm.Pilot.@@N@@
open Jvm Jvm.ClassFile Sem Op Lib Jvm.Free Jvm.Stand Jvm.LawKit Jvm.RoadKit Bundle Jvm.Pilot.@@N@@.Jvm.D
open Jvm.Free.Fl (NoNaN64 Fin64 Nz64)
/-! arrays by the list of what they hold -/
def own_A (Z : State) (h : Heap) (a : Addr) (ty : FieldType) (vs : List Value) : Prop := ∃ c : Cell, Arr Z h a c ty ∧ c.slots.toList = vs
section OwnArr
variable {p : Program} {l : Launch} {e : Env} {R : Room} {s : State} {m : MethodId} {args : Array Value} {below : List Frame} {meth : Method} {c : Code} {T : State} {locs : List Loc} {cells slots : Nat} {Z : State} {h h' : Heap} {a b : Addr} {ty : FieldType} {vs : List Value} {sl : Nat} {v : Value} {ws : List Addr}
theorem own_A.lt (F : own_A Z h a ty vs) : a < h.size := by obtain ⟨c, A, -⟩ := F; exact A.lt
theorem own_A.ext (F : own_A Z h a ty vs) (E : Ext h h') : own_A Z h' a ty vs := by obtain ⟨c, A, r⟩ := F; exact ⟨c, A.ext E, r⟩
theorem own_A.other (F : own_A Z h b ty vs) (W : Wr h h' a sl v) (q : b ≠ a) : own_A Z h' b ty vs := by obtain ⟨c, A, r⟩ := F; exact ⟨c, A.other W q, r⟩
theorem own_A.keep (F : own_A Z h a ty vs) (K : Keep h h' ws) (q : a ∉ ws) : own_A Z h' a ty vs := by obtain ⟨c, A, r⟩ := F; exact ⟨c, ⟨K.2.1 a c A.1 q, A.2⟩, r⟩
theorem own_A.new {k : ClassId} {n : Int32} (A : Arr Z h a (newA k ty n) ty) : own_A Z h a ty (List.replicate n.toNatClampNeg (defaultValue ty)) := ⟨_, A, by simp [newA]⟩
theorem own_A.len (X : Stand p l e R s m args below meth c T locs cells slots) (hx : p.tables.exec = Jvm.exec) (hZ : Z.Warmed39 s.vm) (eT : T.heap = h) (F : own_A Z h a ty vs)
    {g : JFrame} (hg : g.method = m) {rest : List Value} (hs : g.stack = .ref a :: rest) (hd : decode c.code g.pc = .ok (.arraylength, 1)) (target : State)
    (hr : Steps p.tables e below (T.setTop { g with pc := g.pc + 1, stack := .int vs.length.toInt32 :: rest }) target) : Steps p.tables e below (T.setTop g) target := by
  obtain ⟨cl, A, rfl⟩ := F
  refine X.arraylength hx (cell := cl) (by rw [eT]; exact A.1) (State.isArrayOf_alike hZ.alike A.2.1) hg hs hd _ ?_
  rw [Array.length_toList] at hr; exact hr
theorem own_A.inb {cl : Cell} {j : Int32} (hj : ¬ j < 0) (hv : cl.slots.toList[j.toNatClampNeg]? = some v) : ¬ (j < 0 ∨ cl.slots.size ≤ j.toNatClampNeg) := by
  rintro (q | q)
  · exact hj q
  · rw [List.getElem?_eq_none (by rw [Array.length_toList]; exact q)] at hv; cases hv
theorem own_A.dld (X : Stand p l e R s m args below meth c T locs cells slots) (hx : p.tables.exec = Jvm.exec) (hZ : Z.Warmed39 s.vm) (eT : T.heap = h) (F : own_A Z h a .double vs) {j : Int32} (hj : ¬ j < 0) (hv : vs[j.toNatClampNeg]? = some v)
    {g : JFrame} (hg : g.method = m) {rest : List Value} (hs : g.stack = .int j :: .ref a :: rest) (hd : decode c.code g.pc = .ok (.daload, 1)) (target : State)
    (hr : Steps p.tables e below (T.setTop { g with pc := g.pc + 1, stack := v :: rest }) target) : Steps p.tables e below (T.setTop g) target := by
  obtain ⟨cl, A, rfl⟩ := F
  exact X.daload hx (by rw [eT]; exact A.1) (State.isArrayOf_alike hZ.alike A.2.1) A.2.2 (own_A.inb hj hv) (by rw [← Array.getElem?_toList]; exact hv) hg hs hd _ hr
theorem own_A.ild (X : Stand p l e R s m args below meth c T locs cells slots) (hx : p.tables.exec = Jvm.exec) (hZ : Z.Warmed39 s.vm) (eT : T.heap = h) (F : own_A Z h a .int vs) {j : Int32} (hj : ¬ j < 0) (hv : vs[j.toNatClampNeg]? = some v)
    {g : JFrame} (hg : g.method = m) {rest : List Value} (hs : g.stack = .int j :: .ref a :: rest) (hd : decode c.code g.pc = .ok (.iaload, 1)) (target : State)
    (hr : Steps p.tables e below (T.setTop { g with pc := g.pc + 1, stack := v :: rest }) target) : Steps p.tables e below (T.setTop g) target := by
  obtain ⟨cl, A, rfl⟩ := F
  exact X.iaload hx (by rw [eT]; exact A.1) (State.isArrayOf_alike hZ.alike A.2.1) A.2.2 (own_A.inb hj hv) (by rw [← Array.getElem?_toList]; exact hv) hg hs hd _ hr
theorem own_A.lld (X : Stand p l e R s m args below meth c T locs cells slots) (hx : p.tables.exec = Jvm.exec) (hZ : Z.Warmed39 s.vm) (eT : T.heap = h) (F : own_A Z h a .long vs) {j : Int32} (hj : ¬ j < 0) (hv : vs[j.toNatClampNeg]? = some v)
    {g : JFrame} (hg : g.method = m) {rest : List Value} (hs : g.stack = .int j :: .ref a :: rest) (hd : decode c.code g.pc = .ok (.laload, 1)) (target : State)
    (hr : Steps p.tables e below (T.setTop { g with pc := g.pc + 1, stack := v :: rest }) target) : Steps p.tables e below (T.setTop g) target := by
  obtain ⟨cl, A, rfl⟩ := F
  exact X.laload hx (by rw [eT]; exact A.1) (State.isArrayOf_alike hZ.alike A.2.1) A.2.2 (own_A.inb hj hv) (by rw [← Array.getElem?_toList]; exact hv) hg hs hd _ hr
theorem own_A.same {cl : Cell} (A : Arr Z h a cl ty) (W : Wr h h' a sl v) : own_A Z h' a ty (cl.slots.toList.set sl v) := ⟨_, A.same W, by simp [Cell.setSlot]⟩
theorem own_A.dst (X : Stand p l e R s m args below meth c T locs cells slots) (hx : p.tables.exec = Jvm.exec) (hZ : Z.Warmed39 s.vm) (eT : T.heap = h) (F : own_A Z h a .double vs) {j : Int32} {x : UInt64} (hj : ¬ j < 0) {o : Value} (hv : vs[j.toNatClampNeg]? = some o)
    {g : JFrame} (hg : g.method = m) {rest : List Value} (hs : g.stack = .double x :: .int j :: .ref a :: rest) (hd : decode c.code g.pc = .ok (.dastore, 1)) :
    ∃ T' h', Stand p l e R s m args below meth c T' (locs ++ [⟨a, j.toNatClampNeg⟩]) cells slots ∧ T'.heap = h' ∧ Wr h h' a j.toNatClampNeg (.double x) ∧ own_A Z h' a .double (vs.set j.toNatClampNeg (.double x)) ∧
      ∀ target, Steps p.tables e below (T'.setTop { g with pc := g.pc + 1, stack := rest }) target → Steps p.tables e below (T.setTop g) target := by
  obtain ⟨cl, A, rfl⟩ := F
  obtain ⟨T', h', X', e', W, st⟩ := stD X hx hZ eT A (own_A.inb hj hv) hg hs hd
  exact ⟨T', h', X', e', W, own_A.same A W, st⟩
theorem own_A.ist (X : Stand p l e R s m args below meth c T locs cells slots) (hx : p.tables.exec = Jvm.exec) (hZ : Z.Warmed39 s.vm) (eT : T.heap = h) (F : own_A Z h a .int vs) {j : Int32} {x : Int32} (hj : ¬ j < 0) {o : Value} (hv : vs[j.toNatClampNeg]? = some o)
    {g : JFrame} (hg : g.method = m) {rest : List Value} (hs : g.stack = .int x :: .int j :: .ref a :: rest) (hd : decode c.code g.pc = .ok (.iastore, 1)) :
    ∃ T' h', Stand p l e R s m args below meth c T' (locs ++ [⟨a, j.toNatClampNeg⟩]) cells slots ∧ T'.heap = h' ∧ Wr h h' a j.toNatClampNeg (.int x) ∧ own_A Z h' a .int (vs.set j.toNatClampNeg (.int x)) ∧
      ∀ target, Steps p.tables e below (T'.setTop { g with pc := g.pc + 1, stack := rest }) target → Steps p.tables e below (T.setTop g) target := by
  obtain ⟨cl, A, rfl⟩ := F
  obtain ⟨T', h', X', e', W, st⟩ := stI X hx hZ eT A (own_A.inb hj hv) hg hs hd
  exact ⟨T', h', X', e', W, own_A.same A W, st⟩
theorem own_A.lst (X : Stand p l e R s m args below meth c T locs cells slots) (hx : p.tables.exec = Jvm.exec) (hZ : Z.Warmed39 s.vm) (eT : T.heap = h) (F : own_A Z h a .long vs) {j : Int32} {x : Int64} (hj : ¬ j < 0) {o : Value} (hv : vs[j.toNatClampNeg]? = some o)
    {g : JFrame} (hg : g.method = m) {rest : List Value} (hs : g.stack = .long x :: .int j :: .ref a :: rest) (hd : decode c.code g.pc = .ok (.lastore, 1)) :
    ∃ T' h', Stand p l e R s m args below meth c T' (locs ++ [⟨a, j.toNatClampNeg⟩]) cells slots ∧ T'.heap = h' ∧ Wr h h' a j.toNatClampNeg (.long x) ∧ own_A Z h' a .long (vs.set j.toNatClampNeg (.long x)) ∧
      ∀ target, Steps p.tables e below (T'.setTop { g with pc := g.pc + 1, stack := rest }) target → Steps p.tables e below (T.setTop g) target := by
  obtain ⟨cl, A, rfl⟩ := F
  obtain ⟨T', h', X', e', W, st⟩ := stJ X hx hZ eT A (own_A.inb hj hv) hg hs hd
  exact ⟨T', h', X', e', W, own_A.same A W, st⟩
end OwnArr
section OwnCopy
variable {p : Program} {l : Launch} {e : Env} {R : Room} {s : State} {m : MethodId} {args : Array Value} {below : List Frame} {meth : Method} {c : Code} {T : State} {locs : List Loc} {cells slots : Nat} {Z : State} {h h' : Heap} {a b : Addr} {ty : FieldType} {vs vd : List Value}
theorem own_A.arv (F : own_A Z h a ty vs) (n : Int32) (hn : n.toNatClampNeg = vs.length) (h0 : ¬ n < 0) (d : Value) (hf : ∀ v ∈ vs, fits ty v = true) : ∃ k, Arv Z h a k ty n vs d := by
  obtain ⟨cl, A, rfl⟩ := F
  have hs : cl.slots.size = n.toNatClampNeg := by rw [hn, Array.length_toList]
  refine ⟨cl.cls, cl, A, rfl, hs, h0, fun i hi => ?_, fun i hi => ?_⟩
  · rw [List.getD_eq_getElem?_getD, Array.getElem?_toList, Array.getElem?_eq_getElem hi]; rfl
  · rw [List.getD_eq_getElem?_getD, Array.getElem?_toList, Array.getElem?_eq_getElem hi]
    exact hf _ (Array.mem_toList_iff.mpr (Array.getElem_mem hi))
theorem own_A.of_arv {k : ClassId} {n : Int32} {d : Value} (F : Arv Z h a k ty n vs d) (hn : n.toNatClampNeg = vs.length) : own_A Z h a ty vs := by
  obtain ⟨cl, A, -, hs, -, H, -⟩ := F
  refine ⟨cl, A, ?_⟩
  apply List.ext_getElem?
  intro i
  by_cases hi : i < cl.slots.size
  · rw [Array.getElem?_toList, H i hi, List.getD_eq_getElem?_getD, List.getElem?_eq_getElem (by omega)]; rfl
  · rw [Array.getElem?_toList, Array.getElem?_eq_none (by omega), List.getElem?_eq_none (by omega)]
theorem own_A.copy (X : Stand p l e R s m args below meth c T locs cells slots) (hx : p.tables.exec = Jvm.exec) (hZ : Z.Warmed39 s.vm) {a0 : Array Value} {own : String} {index : Nat} (hown : s.vm.findClass own = some m.cls)
    (w1 : (Jvm.Cond.methodLink own index Jvm.Stand.acN).before a0 Z = true) (w2 : (Jvm.Cond.native Jvm.Stand.acN).before a0 Z = true) (w3 : (Jvm.Cond.static Jvm.Stand.acN).before a0 Z = true) (w4 : (Jvm.Cond.initialized "java/lang/System").before a0 Z = true) (eT : T.heap = h)
    (A : own_A Z h a ty vs) (B : own_A Z h b ty vd) (hty : refKind ty = false) {na nb nn : Int32} (ha : na.toNatClampNeg = vs.length) (hb : nb.toNatClampNeg = vd.length) (ga : ¬ na < 0) (gb : ¬ nb < 0) (gn : ¬ nn < 0) (la : nn.toNatClampNeg ≤ vs.length) (lb : nn.toNatClampNeg ≤ vd.length)
    (fa : ∀ v ∈ vs, fits ty v = true) (fb : ∀ v ∈ vd, fits ty v = true) {n0 : Nat} (N : Fr n0 locs) (ge : n0 ≤ b)
    {g : JFrame} (hg : g.method = m) (hsize : g.locals.size = c.maxLocals) {rest : List Value} (hs : g.stack = .int nn :: .int 0 :: .ref b :: .int 0 :: .ref a :: rest) (hd : decode c.code g.pc = .ok (.invokestatic index, 3))
    (hf : 1 ≤ R.frames) {W : Nat} (hW : 2 * g.monitorRoom + (rest.map fun v => v.category).sum ≤ W) (hlo : W + (nativeFrameWords "java/lang/System" "arraycopy" 5 + 11) ≤ R.locals) :
    ∃ T' h' L, Stand p l e R s m args below meth c T' L cells slots ∧ T'.heap = h' ∧ Fr n0 L ∧ Keep h h' [b] ∧ own_A Z h' b ty (vs.take nn.toNatClampNeg ++ vd.drop nn.toNatClampNeg) ∧
      ∀ target, Steps p.tables e below (T'.setTop { g with pc := g.pc + 3, stack := rest }) target → Steps p.tables e below (T.setTop g) target := by
  obtain ⟨ka, A'⟩ := A.arv na ha ga (.int 0) fa
  obtain ⟨kb, B'⟩ := B.arv nb hb gb (.int 0) fb
  obtain ⟨T', h', L, X', e', N', K, Q, st⟩ := cpA X hx hZ hown w1 w2 w3 w4 eT (sp := 0) (dp := 0) (nn := nn) (us := vs.take nn.toNatClampNeg) A' B' (Or.inl ⟨rfl, hty⟩) (by decide) (by decide) gn (by show 0 + _ ≤ _; omega) (by show 0 + _ ≤ _; omega) (by
      apply List.ext_getElem?
      intro i
      show (vs.take nn.toNatClampNeg)[i]? = ((List.range nn.toNatClampNeg).map fun i => vs.getD (0 + i) (.int 0))[i]?
      by_cases hi : i < nn.toNatClampNeg
      · rw [List.getElem?_take_of_lt hi, List.getElem?_map, List.getElem?_range hi]
        show _ = some (vs.getD (0 + i) (.int 0))
        rw [Nat.zero_add, List.getD_eq_getElem?_getD, List.getElem?_eq_getElem (by omega)]; rfl
      · rw [List.getElem?_eq_none (by rw [List.length_take]; omega), List.getElem?_eq_none (by rw [List.length_map, List.length_range]; omega)]) (by show 0 + _ ≤ _; omega) N ge hg hsize hs hd hf hW hlo
  refine ⟨T', h', L, X', e', N', K, ?_, st⟩
  refine own_A.of_arv (by simpa using Q) ?_
  rw [List.length_append, List.length_take, List.length_drop, hb]; omega
end OwnCopy
section OwnChr
variable {p : Program} {l : Launch} {e : Env} {R : Room} {s : State} {m : MethodId} {args : Array Value} {below : List Frame} {meth : Method} {c : Code} {T : State} {locs : List Loc} {cells slots : Nat} {Z : State} {h h' : Heap} {a b : Addr} {ty : FieldType} {vs : List Value} {sl : Nat} {v : Value} {ws : List Addr}
theorem own_A.cst (X : Stand p l e R s m args below meth c T locs cells slots) (hx : p.tables.exec = Jvm.exec) (hZ : Z.Warmed39 s.vm) (eT : T.heap = h) (F : own_A Z h a .char vs) {j : Int32} {x : Int32} (hj : ¬ j < 0) {o : Value} (hv : vs[j.toNatClampNeg]? = some o)
    {g : JFrame} (hg : g.method = m) {rest : List Value} (hs : g.stack = .int x :: .int j :: .ref a :: rest) (hd : decode c.code g.pc = .ok (.castore, 1)) :
    ∃ T' h', Stand p l e R s m args below meth c T' (locs ++ [⟨a, j.toNatClampNeg⟩]) cells slots ∧ T'.heap = h' ∧ Wr h h' a j.toNatClampNeg (.int (nar .char x)) ∧ own_A Z h' a .char (vs.set j.toNatClampNeg (.int (nar .char x))) ∧
      ∀ target, Steps p.tables e below (T'.setTop { g with pc := g.pc + 1, stack := rest }) target → Steps p.tables e below (T.setTop g) target := by
  obtain ⟨cl, A, rfl⟩ := F
  obtain ⟨T', h', X', e', W, st⟩ := stC X hx hZ eT A (own_A.inb hj hv) hg hs hd
  exact ⟨T', h', X', e', W, own_A.same A W, st⟩
theorem own_A.bst (X : Stand p l e R s m args below meth c T locs cells slots) (hx : p.tables.exec = Jvm.exec) (hZ : Z.Warmed39 s.vm) (eT : T.heap = h) (F : own_A Z h a .byte vs) {j : Int32} {x : Int32} (hj : ¬ j < 0) {o : Value} (hv : vs[j.toNatClampNeg]? = some o)
    {g : JFrame} (hg : g.method = m) {rest : List Value} (hs : g.stack = .int x :: .int j :: .ref a :: rest) (hd : decode c.code g.pc = .ok (.bastore, 1)) :
    ∃ T' h', Stand p l e R s m args below meth c T' (locs ++ [⟨a, j.toNatClampNeg⟩]) cells slots ∧ T'.heap = h' ∧ Wr h h' a j.toNatClampNeg (.int (nar .byte x)) ∧ own_A Z h' a .byte (vs.set j.toNatClampNeg (.int (nar .byte x))) ∧
      ∀ target, Steps p.tables e below (T'.setTop { g with pc := g.pc + 1, stack := rest }) target → Steps p.tables e below (T.setTop g) target := by
  obtain ⟨cl, A, rfl⟩ := F
  obtain ⟨T', h', X', e', W, st⟩ := stB X hx hZ eT A (own_A.inb hj hv) hg hs hd
  exact ⟨T', h', X', e', W, own_A.same A W, st⟩
end OwnChr
/-! how far the heap had come when the intern table last turned -/
abbrev own_Le (k : Nat) (h : Heap) : Prop := k ≤ h.size
theorem own_Le.ext {k : Nat} {h h' : Heap} (F : own_Le k h) (E : Ext h h') : own_Le k h' := Nat.le_trans F E.1
theorem own_Le.wr {k : Nat} {h h' : Heap} {a : Addr} {sl : Nat} {v : Value} (F : own_Le k h) (W : Wr h h' a sl v) : own_Le k h' := Nat.le_trans F (Keep.of_wr W).1
theorem own_Le.keep {k : Nat} {h h' : Heap} {ws : List Addr} (F : own_Le k h) (K : Keep h h' ws) : own_Le k h' := Nat.le_trans F K.1
theorem own_and255 (x : Int32) : ¬ x &&& 255 < 0 ∧ ¬ (255 : Int32) < x &&& 255 := by
  have e := Jvm.Kit.i32_mask x 255 (k := 8) (by decide) (by decide)
  constructor
  · rw [Int32.lt_iff_toInt_lt, e]; show ¬ _ < (0 : Int); omega
  · rw [Int32.lt_iff_toInt_lt, e]; show ¬ (255 : Int) < _; omega
theorem own_lat (x : Int32) : ¬ nar .char ((x &&& 255).toUInt32.toUInt16.toUInt32.toInt32) < 0 ∧ ¬ (255 : Int32) < nar .char ((x &&& 255).toUInt32.toUInt16.toUInt32.toInt32) := by
  rw [show nar .char ((x &&& (255 : Int32)).toUInt32.toUInt16.toUInt32.toInt32) = x &&& 255 from by simp only [nar, i2c_mask]]; exact own_and255 x
section OwnHeld
variable {p : Program} {l : Launch} {e : Env} {R : Room} {s : State} {args : Array Value} {below : List Frame} {Z : State} {a0 : Array Value} {EL : List (String × Nat)} {h : Heap} {vm0 : Vm}
/-- a callee whose law asks something of the tables at its start that the held constants give -/
theorem own_backG {G : Vm → Prop} {y : MethodName} {bytes : ByteArray} {maxL : Nat} {ret : Option FieldType} {rm : Room} {len W : Nat} {as' : Array Value} {Q : Option Value → Heap → List Loc → Prop}
    (hM : MetFree l y (head1 [Jvm.Cond.code y bytes maxL ret] rm) (fun a U => a = as' ∧ Z.Warmed39 U.vm ∧ U.heap = h ∧ G U.vm) (fun _ _ _ _ _ => True) (fun _ U o U' => ∃ v L, o = .returned v ∧ Q v U'.heap L ∧ ReturnedEndW U o U' L rm.cells rm.slots))
    (hZ : Z.Warmed39 vm0) (wc : (Jvm.Cond.code y bytes maxL ret).before a0 Z = true) (wz : (Jvm.Cond.initialized y.cls).before a0 Z = true) (hf : rm.frames + 1 ≤ R.frames) (hl : W + (maxL + 11) + rm.locals ≤ R.locals) (hG : ∀ vm1, CHr Z EL vm0 h vm1 h → G vm1) (hEL : EW Z a0 EL) (H : CHv Z EL vm0 h) :
    BackS l R p e below (s.setVm vm0) args y len W (fun A a => a = as' ∧ A.U.heap = h ∧ A.cells + rm.cells ≤ R.cells ∧ A.slots + rm.slots ≤ R.slots)
      (fun A _ v B => ∃ L, Q v B.U.heap L ∧ B.locs = A.locs ++ L ∧ B.cells = A.cells + rm.cells ∧ B.slots = A.slots + rm.slots) := by
  refine BackS.of_freeW (bytes := bytes) (maxL := maxL) (ret := ret) (E := fun _ _ o t L k n => k = rm.cells ∧ n = rm.slots ∧ ∃ v, o = .returned v ∧ Q v t.heap L) hM hf hl ?_ ?_ (fun _ _ _ _ _ _ _ _ _ => trivial) ?_ ?_
  · intro m meth c A a Y hp
    have hU : Z.Warmed39 A.U.vm := wtrans (s := s.setVm vm0) hZ Y.warmed
    refine ⟨?_, mv hU wc, mv hU wz, hp.2.2.1, hp.2.2.2⟩
    show (Jvm.Cond.and _ .tt).before a A.U = true
    rw [Cond.before_and, mv hU wc]; rfl
  · intro m meth c A a g mk Y hp
    have hC := CHv.at Y hZ hEL H
    exact ⟨hp.1, wtrans (s := s.setVm vm0) hZ Y.warmed, hp.2.1, hG _ hC⟩
  · rintro a first o t ⟨v, L, h1, h2, h3⟩
    exact ⟨L, _, _, h3, rfl, rfl, v, h1, h2⟩
  · rintro m meth c A a g mk v t L k n Y hp - - ⟨e1, e2, v', e3, e4⟩
    cases e3; subst e1 e2
    exact ⟨L, e4, rfl, rfl, rfl⟩
end OwnHeld
theorem own_narR {v : Value} (h : v.isRef = true) (C : String) : narrow (.object C) v = v ∧ fits (.object C) v = true := by rcases ref_cases h with rfl | ⟨b, rfl⟩ <;> exact ⟨rfl, rfl⟩
theorem own_narA {v : Value} (h : v.isRef = true) (t : FieldType) : narrow (.array t) v = v ∧ fits (.array t) v = true := by rcases ref_cases h with rfl | ⟨b, rfl⟩ <;> exact ⟨rfl, rfl⟩

theorem own_EWt {Z : State} {a0 : Array Value} (hw : ∀ d ∈ tables_1, d.before a0 Z = true) : EW Z a0 consts_1 := EW.cons (hw _ (List.mem_of_getElem? (i := 18) rfl)) (by decide) EW.nil
abbrev fd0 (Z : State) (h : Heap) (a : Addr) (v : Value) : Prop := Fld Z h a "java/lang/Throwable" "cause" "Ljava/lang/Throwable;" v
abbrev fd1 (Z : State) (h : Heap) (a : Addr) (v : Value) : Prop := Fld Z h a "java/lang/Throwable" "detailMessage" "Ljava/lang/String;" v
abbrev fd2 (Z : State) (h : Heap) (a : Addr) (v : Value) : Prop := Fld Z h a "com/example/tokenward/tokenward/ApiException" "status" "I" v
def QrmT (Z : State) (a : Addr) (mv : Value) (uS : Value) (sS : Value) (h0 : Heap) (n0 : Nat) (vQ : Option Value) (hQ : Heap) (LQ : List Loc) : Prop := vQ = none ∧ Fr n0 LQ ∧ Keep h0 hQ [a] ∧ (fd0 Z hQ a .null) ∧ (fd1 Z hQ a mv) ∧ (fd2 Z hQ a (.int (0 : Int32))) ∧ (Unt hQ a)
theorem ef_rmT (m : MethodId) (a : Addr) (mv : Value) (uS : Value) (sS : Value) (hm : mv.isRef = true) : entryFrame m #[(.ref a), mv, .null, (.int (0 : Int32)), (.int (0 : Int32))] 5 = mkF m 0 #[vr a, .val mv, .val .null, vi (0 : Int32), vi (0 : Int32)] [] := by cases mv <;> cases hm <;> first | (simp [entryFrame, mkF, argsToLocals, Value.category]; done) | rfl
abbrev xa3 (Z : State) (h : Heap) (a : Addr) : Prop := Exa Z h a "com/example/tokenward/tokenward/ApiException"
abbrev fd4 (Z : State) (h : Heap) (a : Addr) (v : Value) : Prop := Fld Z h a "java/lang/Throwable" "stackTrace" "[Ljava/lang/StackTraceElement;" v
abbrev fd5 (Z : State) (h : Heap) (a : Addr) (v : Value) : Prop := Fld Z h a "java/lang/Throwable" "suppressedExceptions" "Ljava/util/List;" v
abbrev mn6 : MethodName := ⟨"java/lang/Throwable", "<init>", "(Ljava/lang/String;Ljava/lang/Throwable;ZZ)V"⟩
theorem pn_java_lang_Throwable : plainName "java/lang/Throwable" = true := by first | (simp [plainName, overriddenIn]; done) | decide +kernel
theorem d_jdk_78_method_5_code_0 : decode jdk_78_method_5_code 0 = .ok (.aload_n 0, 1) := by decide +kernel
theorem d_jdk_78_method_5_code_1 : decode jdk_78_method_5_code 1 = .ok (.invokespecial 1, 3) := by decide +kernel
def tw52 {Z : State} {a0 : Array Value} (hw : ∀ d ∈ tables_1, d.before a0 Z = true) := hw _ (List.mem_of_getElem? (i := 52) rfl)
def tw16 {Z : State} {a0 : Array Value} (hw : ∀ d ∈ tables_1, d.before a0 Z = true) := hw _ (List.mem_of_getElem? (i := 16) rfl)
def tw17 {Z : State} {a0 : Array Value} (hw : ∀ d ∈ tables_1, d.before a0 Z = true) := hw _ (List.mem_of_getElem? (i := 17) rfl)
theorem d_jdk_78_method_5_code_4 : decode jdk_78_method_5_code 4 = .ok (.aload_n 0, 1) := by decide +kernel
theorem d_jdk_78_method_5_code_5 : decode jdk_78_method_5_code 5 = .ok (.aload_n 0, 1) := by decide +kernel
theorem d_jdk_78_method_5_code_6 : decode jdk_78_method_5_code 6 = .ok (.putfield 7, 3) := by decide +kernel
def tw53 {Z : State} {a0 : Array Value} (hw : ∀ d ∈ tables_1, d.before a0 Z = true) := hw _ (List.mem_of_getElem? (i := 53) rfl)
def tw31 {Z : State} {a0 : Array Value} (hw : ∀ d ∈ tables_1, d.before a0 Z = true) := hw _ (List.mem_of_getElem? (i := 31) rfl)
def tw54 {Z : State} {a0 : Array Value} (hw : ∀ d ∈ tables_1, d.before a0 Z = true) := hw _ (List.mem_of_getElem? (i := 54) rfl)
def tw57 {Z : State} {a0 : Array Value} (hw : ∀ d ∈ tables_1, d.before a0 Z = true) := hw _ (List.mem_of_getElem? (i := 57) rfl)
def tw60 {Z : State} {a0 : Array Value} (hw : ∀ d ∈ tables_1, d.before a0 Z = true) := hw _ (List.mem_of_getElem? (i := 60) rfl)
def tw62 {Z : State} {a0 : Array Value} (hw : ∀ d ∈ tables_1, d.before a0 Z = true) := hw _ (List.mem_of_getElem? (i := 62) rfl)
def tw64 {Z : State} {a0 : Array Value} (hw : ∀ d ∈ tables_1, d.before a0 Z = true) := hw _ (List.mem_of_getElem? (i := 64) rfl)
theorem d_jdk_78_method_5_code_9 : decode jdk_78_method_5_code 9 = .ok (.aload_n 0, 1) := by decide +kernel
theorem d_jdk_78_method_5_code_10 : decode jdk_78_method_5_code 10 = .ok (.getstatic 13, 3) := by decide +kernel
def tw55 {Z : State} {a0 : Array Value} (hw : ∀ d ∈ tables_1, d.before a0 Z = true) := hw _ (List.mem_of_getElem? (i := 55) rfl)
theorem d_jdk_78_method_5_code_13 : decode jdk_78_method_5_code 13 = .ok (.putfield 17, 3) := by decide +kernel
def tw56 {Z : State} {a0 : Array Value} (hw : ∀ d ∈ tables_1, d.before a0 Z = true) := hw _ (List.mem_of_getElem? (i := 56) rfl)
theorem d_jdk_78_method_5_code_16 : decode jdk_78_method_5_code 16 = .ok (.aload_n 0, 1) := by decide +kernel
theorem d_jdk_78_method_5_code_17 : decode jdk_78_method_5_code 17 = .ok (.getstatic 20, 3) := by decide +kernel
def tw58 {Z : State} {a0 : Array Value} (hw : ∀ d ∈ tables_1, d.before a0 Z = true) := hw _ (List.mem_of_getElem? (i := 58) rfl)
theorem d_jdk_78_method_5_code_20 : decode jdk_78_method_5_code 20 = .ok (.putfield 24, 3) := by decide +kernel
def tw59 {Z : State} {a0 : Array Value} (hw : ∀ d ∈ tables_1, d.before a0 Z = true) := hw _ (List.mem_of_getElem? (i := 59) rfl)
theorem d_jdk_78_method_5_code_23 : decode jdk_78_method_5_code 23 = .ok (.iload 4, 2) := by decide +kernel
theorem d_jdk_78_method_5_code_25 : decode jdk_78_method_5_code 25 = .ok (.ifCond .eq 11, 3) := by decide +kernel
theorem d_jdk_78_method_5_code_36 : decode jdk_78_method_5_code 36 = .ok (.aload_n 0, 1) := by decide +kernel
theorem d_jdk_78_method_5_code_37 : decode jdk_78_method_5_code 37 = .ok (.aconst_null, 1) := by decide +kernel
theorem d_jdk_78_method_5_code_38 : decode jdk_78_method_5_code 38 = .ok (.putfield 17, 3) := by decide +kernel
theorem d_jdk_78_method_5_code_41 : decode jdk_78_method_5_code 41 = .ok (.aload_n 0, 1) := by decide +kernel
theorem d_jdk_78_method_5_code_42 : decode jdk_78_method_5_code 42 = .ok (.aload_n 1, 1) := by decide +kernel
theorem d_jdk_78_method_5_code_43 : decode jdk_78_method_5_code 43 = .ok (.putfield 31, 3) := by decide +kernel
def tw61 {Z : State} {a0 : Array Value} (hw : ∀ d ∈ tables_1, d.before a0 Z = true) := hw _ (List.mem_of_getElem? (i := 61) rfl)
theorem d_jdk_78_method_5_code_46 : decode jdk_78_method_5_code 46 = .ok (.aload_n 0, 1) := by decide +kernel
theorem d_jdk_78_method_5_code_47 : decode jdk_78_method_5_code 47 = .ok (.aload_n 2, 1) := by decide +kernel
theorem d_jdk_78_method_5_code_48 : decode jdk_78_method_5_code 48 = .ok (.putfield 7, 3) := by decide +kernel
theorem d_jdk_78_method_5_code_51 : decode jdk_78_method_5_code 51 = .ok (.iload_n 3, 1) := by decide +kernel
theorem d_jdk_78_method_5_code_52 : decode jdk_78_method_5_code 52 = .ok (.ifCond .ne 8, 3) := by decide +kernel
theorem d_jdk_78_method_5_code_55 : decode jdk_78_method_5_code 55 = .ok (.aload_n 0, 1) := by decide +kernel
theorem d_jdk_78_method_5_code_56 : decode jdk_78_method_5_code 56 = .ok (.aconst_null, 1) := by decide +kernel
theorem d_jdk_78_method_5_code_57 : decode jdk_78_method_5_code 57 = .ok (.putfield 24, 3) := by decide +kernel
theorem d_jdk_78_method_5_code_60 : decode jdk_78_method_5_code 60 = .ok (.return_, 1) := by decide +kernel
set_option maxRecDepth 65536 in
set_option maxHeartbeats 40000000 in
theorem rmT (l : Launch) (Z : State) (a0 : Array Value) (hw : ∀ d ∈ tables_1, d.before a0 Z = true) (ws : List Jvm.Cond) (a : Addr) (mv : Value) (uS : Value) (sS : Value) (h0 : Heap) (n0 : Nat) (Z0 : n0 ≤ h0.size) (E1 : xa3 Z h0 a) (U1 : Unt h0 a) (O1 : Old Z n0 h0) (F0 : fd0 Z h0 a .null) (F1 : fd4 Z h0 a .null) (F2 : fd5 Z h0 a .null) (F3 : fd1 Z h0 a .null) (F9 : fd2 Z h0 a (.int (0 : Int32))) (ge_a : n0 ≤ a) (hm : mv.isRef = true) (oU : Sta Z Z.heap "java/lang/Throwable" "UNASSIGNED_STACK" "[Ljava/lang/StackTraceElement;" uS) (hu : uS.isRef = true) (oS : Sta Z Z.heap "java/lang/Throwable" "SUPPRESSED_SENTINEL" "Ljava/util/List;" sS) (hs : sS.isRef = true) :
    MetFree l mn6 (head1 (Jvm.Cond.code mn6 jdk_78_method_5_code 5 none :: ws) ({ frames := 1, cells := 0, slots := 0, locals := 12 } : Room)) (fun aA U => aA = #[(.ref a), mv, .null, (.int (0 : Int32)), (.int (0 : Int32))] ∧ Z.Warmed39 U.vm ∧ U.heap = h0) (fun _ _ _ _ _ => True) (fun _ U o U' => ∃ vR LR, o = .returned vR ∧ QrmT Z a mv uS sS h0 n0 vR U'.heap LR ∧ FrameEnd U o U' LR ({ frames := 1, cells := 0, slots := 0, locals := 12 } : Room).cells ({ frames := 1, cells := 0, slots := 0, locals := 12 } : Room).slots) := by
  refine MetFree.of_bodySF (plainFor_of_name pn_java_lang_Throwable) hisR ?_
  intro p e s m args below meth c s₁ Bd hml0 hPre hKk
  obtain ⟨rfl, hZ, hh⟩ := hPre
  have hx := Bd.exec
  have hby := Bd.bytes
  skip
  have hml : c.maxLocals = 5 := hml0
  have hown : s.vm.findClass "java/lang/Throwable" = some m.cls := findClass_of_methodNamed Bd.named
  have hnm := (name_of_methodNamed Bd.named Bd.method).1
  have X0 : Stand p l e ({ frames := 1, cells := 0, slots := 0, locals := 12 } : Room) s m #[(.ref a), mv, .null, (.int (0 : Int32)), (.int (0 : Int32))] below meth c s₁ [] 0 0 := Stand.of_body Bd
  have e0 : s₁.heap = h0 := by rw [← hh, Bd.state]; rfl
  have N0 := Fr.nil n0
  obtain ⟨E0, hE0⟩ : ∃ zE : State, zE = s₁.setTop (entryFrame m #[(.ref a), mv, .null, (.int (0 : Int32)), (.int (0 : Int32))] 5) := ⟨_, rfl⟩
  have k0 : own_G p e below E0 s₁ (mkF m 0 #[vr a, .val mv, .val .null, vi (0 : Int32), vi (0 : Int32)] []) := fun tz kz => hE0 ▸ castTop (ef_rmT m a mv uS sS hm) kz
  have K0 : Keep h0 h0 [a] := Keep.refl _ _
  have k1 : own_G p e below E0 s₁ (mkF m 1 #[vr a, .val mv, .val .null, vi (0 : Int32), vi (0 : Int32)] [(.ref a)]) := by
    intro tQ kk
    refine k0 tQ ?_
    refine XS.aloadN X0.here hx rfl (hb hby d_jdk_78_method_5_code_0) rfl rfl ?_
    exact kk
  clear k0
  obtain ⟨T2, X3, e4, st5⟩ := initO X0 hx hZ hown (tw52 hw) (tw16 hw) (tw17 hw) e0 (g := (mkF m 1 #[vr a, .val mv, .val .null, vi (0 : Int32), vi (0 : Int32)] [(.ref a)])) rfl (by rw [hml]; rfl) rfl (hb hby d_jdk_78_method_5_code_1) (by decide) (W := 0) (by show 2 * 0 + _ ≤ _; exact Nat.le_of_eq rfl) (by decide)
  have k6 : own_G p e below E0 T2 (mkF m 4 #[vr a, .val mv, .val .null, vi (0 : Int32), vi (0 : Int32)] []) := fun tQ kk => k1 tQ (st5 _ kk)
  clear k1 st5
  have k7 : own_G p e below E0 T2 (mkF m 6 #[vr a, .val mv, .val .null, vi (0 : Int32), vi (0 : Int32)] [(.ref a), (.ref a)]) := by
    intro tQ kk
    refine k6 tQ ?_
    refine XS.aloadN X3.here hx rfl (hb hby d_jdk_78_method_5_code_4) rfl rfl ?_
    refine XS.aloadN X3.here hx rfl (hb hby d_jdk_78_method_5_code_5) rfl rfl ?_
    exact kk
  clear k6
  obtain ⟨T8, h9, X10, e11, W12, st13⟩ := putF X3 hx hZ hown (host := "") (Or.inl (tw53 hw)) Via.refl e4 F0 E1 (Or.inl (tw54 hw)) (tw31 hw) (ty := (.object "java/lang/Throwable")) (by decide) rfl rfl (g := (mkF m 6 #[vr a, .val mv, .val .null, vi (0 : Int32), vi (0 : Int32)] [(.ref a), (.ref a)])) rfl rfl (hb hby d_jdk_78_method_5_code_6)
  have N14 := Fr.snoc X10 N0 ge_a
  have k15 : own_G p e below E0 T8 (mkF m 9 #[vr a, .val mv, .val .null, vi (0 : Int32), vi (0 : Int32)] []) := fun tQ kk => k7 tQ (st13 _ kk)
  clear k7 st13
  have F16 : xa3 Z h9 a := E1.wr W12
  clear E1
  have F17 : Unt h9 a := U1.wr W12
  clear U1
  have F18 : Old Z n0 h9 := O1.wr W12 ge_a
  clear O1
  have F19 : fd0 Z h9 a (.ref a) := F0.same W12
  clear F0
  have F20 : fd4 Z h9 a .null := F1.other W12 (Or.inr (slot_ne (C := "com/example/tokenward/tokenward/ApiException") (Or.inl (tw57 hw)) (Or.inl (tw54 hw)) (by decide) (t := (.array (.object "java/lang/StackTraceElement"))) (t' := (.object "java/lang/Throwable")) (by decide) (by decide)))
  clear F1
  have F21 : fd5 Z h9 a .null := F2.other W12 (Or.inr (slot_ne (C := "com/example/tokenward/tokenward/ApiException") (Or.inl (tw60 hw)) (Or.inl (tw54 hw)) (by decide) (t := (.object "java/util/List")) (t' := (.object "java/lang/Throwable")) (by decide) (by decide)))
  clear F2
  have F22 : fd1 Z h9 a .null := F3.other W12 (Or.inr (slot_ne (C := "com/example/tokenward/tokenward/ApiException") (Or.inl (tw62 hw)) (Or.inl (tw54 hw)) (by decide) (t := (.object "java/lang/String")) (t' := (.object "java/lang/Throwable")) (by decide) (by decide)))
  clear F3
  have F23 : fd2 Z h9 a (.int (0 : Int32)) := F9.other W12 (Or.inr (slot_ne (C := "com/example/tokenward/tokenward/ApiException") (Or.inr (tw64 hw)) (Or.inl (tw54 hw)) (by decide) (t := .int) (t' := (.object "java/lang/Throwable")) (by decide) (by decide)))
  clear F9
  have Z24 : n0 ≤ h9.size := by rw [W12.size]; exact Z0
  have K25 : Keep h0 h9 [a] := K0.wr W12 (Or.inl (List.mem_of_getElem? (i := 0) rfl))
  have F26 : Sta Z h9 "java/lang/Throwable" "UNASSIGNED_STACK" "[Ljava/lang/StackTraceElement;" uS := oU.ext F18.2
  have k27 : own_G p e below E0 T8 (mkF m 10 #[vr a, .val mv, .val .null, vi (0 : Int32), vi (0 : Int32)] [(.ref a)]) := by
    intro tQ kk
    refine k15 tQ ?_
    refine XS.aloadN X10.here hx rfl (hb hby d_jdk_78_method_5_code_9) rfl rfl ?_
    exact kk
  clear k15
  obtain ⟨T28, X29, e30, st31⟩ := getS X10 hx hZ hown (host := "") (tw55 hw) Via.refl e11 F26 (g := (mkF m 10 #[vr a, .val mv, .val .null, vi (0 : Int32), vi (0 : Int32)] [(.ref a)])) rfl (hb hby d_jdk_78_method_5_code_10)
  have k32 : own_G p e below E0 T28 (mkF m 13 #[vr a, .val mv, .val .null, vi (0 : Int32), vi (0 : Int32)] [uS, (.ref a)]) := fun tQ kk => k27 tQ (st31 _ kk)
  clear k27 st31
  obtain ⟨T33, h34, X35, e36, W37, st38⟩ := putF X29 hx hZ hown (host := "") (Or.inl (tw56 hw)) Via.refl e30 F20 F16 (Or.inl (tw57 hw)) (tw31 hw) (ty := (.array (.object "java/lang/StackTraceElement"))) (by decide) (own_narA hu _).1 (own_narA hu _).2 (g := (mkF m 13 #[vr a, .val mv, .val .null, vi (0 : Int32), vi (0 : Int32)] [uS, (.ref a)])) rfl rfl (hb hby d_jdk_78_method_5_code_13)
  have N39 := Fr.snoc X35 N14 ge_a
  have k40 : own_G p e below E0 T33 (mkF m 16 #[vr a, .val mv, .val .null, vi (0 : Int32), vi (0 : Int32)] []) := fun tQ kk => k32 tQ (st38 _ kk)
  clear k32 st38
  have F41 : xa3 Z h34 a := F16.wr W37
  clear F16
  have F42 : Unt h34 a := F17.wr W37
  clear F17
  have F43 : Old Z n0 h34 := F18.wr W37 ge_a
  clear F18
  have F44 : fd0 Z h34 a (.ref a) := F19.other W37 (Or.inr (slot_ne (C := "com/example/tokenward/tokenward/ApiException") (Or.inl (tw54 hw)) (Or.inl (tw57 hw)) (by decide) (t := (.object "java/lang/Throwable")) (t' := (.array (.object "java/lang/StackTraceElement"))) (by decide) (by decide)))
  clear F19
  have F45 : fd4 Z h34 a uS := F20.same W37
  clear F20
  have F46 : fd5 Z h34 a .null := F21.other W37 (Or.inr (slot_ne (C := "com/example/tokenward/tokenward/ApiException") (Or.inl (tw60 hw)) (Or.inl (tw57 hw)) (by decide) (t := (.object "java/util/List")) (t' := (.array (.object "java/lang/StackTraceElement"))) (by decide) (by decide)))
  clear F21
  have F47 : fd1 Z h34 a .null := F22.other W37 (Or.inr (slot_ne (C := "com/example/tokenward/tokenward/ApiException") (Or.inl (tw62 hw)) (Or.inl (tw57 hw)) (by decide) (t := (.object "java/lang/String")) (t' := (.array (.object "java/lang/StackTraceElement"))) (by decide) (by decide)))
  clear F22
  have F48 : fd2 Z h34 a (.int (0 : Int32)) := F23.other W37 (Or.inr (slot_ne (C := "com/example/tokenward/tokenward/ApiException") (Or.inr (tw64 hw)) (Or.inl (tw57 hw)) (by decide) (t := .int) (t' := (.array (.object "java/lang/StackTraceElement"))) (by decide) (by decide)))
  clear F23
  have F49 : Sta Z h34 "java/lang/Throwable" "UNASSIGNED_STACK" "[Ljava/lang/StackTraceElement;" uS := F26.wr W37
  clear F26
  have Z50 : n0 ≤ h34.size := by rw [W37.size]; exact Z24
  clear Z24
  have K51 : Keep h0 h34 [a] := K25.wr W37 (Or.inl (List.mem_of_getElem? (i := 0) rfl))
  clear K25
  have F52 : Sta Z h34 "java/lang/Throwable" "SUPPRESSED_SENTINEL" "Ljava/util/List;" sS := oS.ext F43.2
  have k53 : own_G p e below E0 T33 (mkF m 17 #[vr a, .val mv, .val .null, vi (0 : Int32), vi (0 : Int32)] [(.ref a)]) := by
    intro tQ kk
    refine k40 tQ ?_
    refine XS.aloadN X35.here hx rfl (hb hby d_jdk_78_method_5_code_16) rfl rfl ?_
    exact kk
  clear k40
  obtain ⟨T54, X55, e56, st57⟩ := getS X35 hx hZ hown (host := "") (tw58 hw) Via.refl e36 F52 (g := (mkF m 17 #[vr a, .val mv, .val .null, vi (0 : Int32), vi (0 : Int32)] [(.ref a)])) rfl (hb hby d_jdk_78_method_5_code_17)
  have k58 : own_G p e below E0 T54 (mkF m 20 #[vr a, .val mv, .val .null, vi (0 : Int32), vi (0 : Int32)] [sS, (.ref a)]) := fun tQ kk => k53 tQ (st57 _ kk)
  clear k53 st57
  obtain ⟨T59, h60, X61, e62, W63, st64⟩ := putF X55 hx hZ hown (host := "") (Or.inl (tw59 hw)) Via.refl e56 F46 F41 (Or.inl (tw60 hw)) (tw31 hw) (ty := (.object "java/util/List")) (by decide) (own_narR hs _).1 (own_narR hs _).2 (g := (mkF m 20 #[vr a, .val mv, .val .null, vi (0 : Int32), vi (0 : Int32)] [sS, (.ref a)])) rfl rfl (hb hby d_jdk_78_method_5_code_20)
  have N65 := Fr.snoc X61 N39 ge_a
  have k66 : own_G p e below E0 T59 (mkF m 23 #[vr a, .val mv, .val .null, vi (0 : Int32), vi (0 : Int32)] []) := fun tQ kk => k58 tQ (st64 _ kk)
  clear k58 st64
  have F67 : xa3 Z h60 a := F41.wr W63
  clear F41
  have F68 : Unt h60 a := F42.wr W63
  clear F42
  have F69 : Old Z n0 h60 := F43.wr W63 ge_a
  clear F43
  have F70 : fd0 Z h60 a (.ref a) := F44.other W63 (Or.inr (slot_ne (C := "com/example/tokenward/tokenward/ApiException") (Or.inl (tw54 hw)) (Or.inl (tw60 hw)) (by decide) (t := (.object "java/lang/Throwable")) (t' := (.object "java/util/List")) (by decide) (by decide)))
  clear F44
  have F71 : fd4 Z h60 a uS := F45.other W63 (Or.inr (slot_ne (C := "com/example/tokenward/tokenward/ApiException") (Or.inl (tw57 hw)) (Or.inl (tw60 hw)) (by decide) (t := (.array (.object "java/lang/StackTraceElement"))) (t' := (.object "java/util/List")) (by decide) (by decide)))
  clear F45
  have F72 : fd5 Z h60 a sS := F46.same W63
  clear F46
  have F73 : fd1 Z h60 a .null := F47.other W63 (Or.inr (slot_ne (C := "com/example/tokenward/tokenward/ApiException") (Or.inl (tw62 hw)) (Or.inl (tw60 hw)) (by decide) (t := (.object "java/lang/String")) (t' := (.object "java/util/List")) (by decide) (by decide)))
  clear F47
  have F74 : fd2 Z h60 a (.int (0 : Int32)) := F48.other W63 (Or.inr (slot_ne (C := "com/example/tokenward/tokenward/ApiException") (Or.inr (tw64 hw)) (Or.inl (tw60 hw)) (by decide) (t := .int) (t' := (.object "java/util/List")) (by decide) (by decide)))
  clear F48
  have F75 : Sta Z h60 "java/lang/Throwable" "UNASSIGNED_STACK" "[Ljava/lang/StackTraceElement;" uS := F49.wr W63
  clear F49
  have F76 : Sta Z h60 "java/lang/Throwable" "SUPPRESSED_SENTINEL" "Ljava/util/List;" sS := F52.wr W63
  clear F52
  have Z77 : n0 ≤ h60.size := by rw [W63.size]; exact Z50
  clear Z50
  have K78 : Keep h0 h60 [a] := K51.wr W63 (Or.inl (List.mem_of_getElem? (i := 0) rfl))
  clear K51
  have k79 : own_G p e below E0 T59 (mkF m 38 #[vr a, .val mv, .val .null, vi (0 : Int32), vi (0 : Int32)] [.null, (.ref a)]) := by
    intro tQ kk
    refine k66 tQ ?_
    refine XS.iload X61.here hx rfl (hb hby d_jdk_78_method_5_code_23) rfl ?_
    refine XS.ifYes X61.here hx rfl (pc0 := 25) (pc' := 36) rfl (hb hby d_jdk_78_method_5_code_25) rfl (own_if_eqY (by decide)) (by decide) (by decide) ?_
    refine XS.aloadN X61.here hx rfl (hb hby d_jdk_78_method_5_code_36) rfl rfl ?_
    refine XS.aconstNull X61.here hx rfl (hb hby d_jdk_78_method_5_code_37) ?_
    exact kk
  clear k66
  obtain ⟨T80, h81, X82, e83, W84, st85⟩ := putF X61 hx hZ hown (host := "") (Or.inl (tw56 hw)) Via.refl e62 F71 F67 (Or.inl (tw57 hw)) (tw31 hw) (ty := (.array (.object "java/lang/StackTraceElement"))) (by decide) rfl rfl (g := (mkF m 38 #[vr a, .val mv, .val .null, vi (0 : Int32), vi (0 : Int32)] [.null, (.ref a)])) rfl rfl (hb hby d_jdk_78_method_5_code_38)
  have N86 := Fr.snoc X82 N65 ge_a
  have k87 : own_G p e below E0 T80 (mkF m 41 #[vr a, .val mv, .val .null, vi (0 : Int32), vi (0 : Int32)] []) := fun tQ kk => k79 tQ (st85 _ kk)
  clear k79 st85
  have F88 : xa3 Z h81 a := F67.wr W84
  clear F67
  have F89 : Unt h81 a := F68.wr W84
  clear F68
  have F90 : Old Z n0 h81 := F69.wr W84 ge_a
  clear F69
  have F91 : fd0 Z h81 a (.ref a) := F70.other W84 (Or.inr (slot_ne (C := "com/example/tokenward/tokenward/ApiException") (Or.inl (tw54 hw)) (Or.inl (tw57 hw)) (by decide) (t := (.object "java/lang/Throwable")) (t' := (.array (.object "java/lang/StackTraceElement"))) (by decide) (by decide)))
  clear F70
  have F92 : fd4 Z h81 a .null := F71.same W84
  clear F71
  have F93 : fd5 Z h81 a sS := F72.other W84 (Or.inr (slot_ne (C := "com/example/tokenward/tokenward/ApiException") (Or.inl (tw60 hw)) (Or.inl (tw57 hw)) (by decide) (t := (.object "java/util/List")) (t' := (.array (.object "java/lang/StackTraceElement"))) (by decide) (by decide)))
  clear F72
  have F94 : fd1 Z h81 a .null := F73.other W84 (Or.inr (slot_ne (C := "com/example/tokenward/tokenward/ApiException") (Or.inl (tw62 hw)) (Or.inl (tw57 hw)) (by decide) (t := (.object "java/lang/String")) (t' := (.array (.object "java/lang/StackTraceElement"))) (by decide) (by decide)))
  clear F73
  have F95 : fd2 Z h81 a (.int (0 : Int32)) := F74.other W84 (Or.inr (slot_ne (C := "com/example/tokenward/tokenward/ApiException") (Or.inr (tw64 hw)) (Or.inl (tw57 hw)) (by decide) (t := .int) (t' := (.array (.object "java/lang/StackTraceElement"))) (by decide) (by decide)))
  clear F74
  have F96 : Sta Z h81 "java/lang/Throwable" "UNASSIGNED_STACK" "[Ljava/lang/StackTraceElement;" uS := F75.wr W84
  clear F75
  have F97 : Sta Z h81 "java/lang/Throwable" "SUPPRESSED_SENTINEL" "Ljava/util/List;" sS := F76.wr W84
  clear F76
  have Z98 : n0 ≤ h81.size := by rw [W84.size]; exact Z77
  clear Z77
  have K99 : Keep h0 h81 [a] := K78.wr W84 (Or.inl (List.mem_of_getElem? (i := 0) rfl))
  clear K78
  have k100 : own_G p e below E0 T80 (mkF m 43 #[vr a, .val mv, .val .null, vi (0 : Int32), vi (0 : Int32)] [mv, (.ref a)]) := by
    intro tQ kk
    refine k87 tQ ?_
    refine XS.aloadN X82.here hx rfl (hb hby d_jdk_78_method_5_code_41) rfl rfl ?_
    refine XS.aloadN X82.here hx rfl (hb hby d_jdk_78_method_5_code_42) rfl hm ?_
    exact kk
  clear k87
  obtain ⟨T101, h102, X103, e104, W105, st106⟩ := putF X82 hx hZ hown (host := "") (Or.inl (tw61 hw)) Via.refl e83 F94 F88 (Or.inl (tw62 hw)) (tw31 hw) (ty := (.object "java/lang/String")) (by decide) (own_narR hm _).1 (own_narR hm _).2 (g := (mkF m 43 #[vr a, .val mv, .val .null, vi (0 : Int32), vi (0 : Int32)] [mv, (.ref a)])) rfl rfl (hb hby d_jdk_78_method_5_code_43)
  have N107 := Fr.snoc X103 N86 ge_a
  have k108 : own_G p e below E0 T101 (mkF m 46 #[vr a, .val mv, .val .null, vi (0 : Int32), vi (0 : Int32)] []) := fun tQ kk => k100 tQ (st106 _ kk)
  clear k100 st106
  have F109 : xa3 Z h102 a := F88.wr W105
  clear F88
  have F110 : Unt h102 a := F89.wr W105
  clear F89
  have F111 : Old Z n0 h102 := F90.wr W105 ge_a
  clear F90
  have F112 : fd0 Z h102 a (.ref a) := F91.other W105 (Or.inr (slot_ne (C := "com/example/tokenward/tokenward/ApiException") (Or.inl (tw54 hw)) (Or.inl (tw62 hw)) (by decide) (t := (.object "java/lang/Throwable")) (t' := (.object "java/lang/String")) (by decide) (by decide)))
  clear F91
  have F113 : fd4 Z h102 a .null := F92.other W105 (Or.inr (slot_ne (C := "com/example/tokenward/tokenward/ApiException") (Or.inl (tw57 hw)) (Or.inl (tw62 hw)) (by decide) (t := (.array (.object "java/lang/StackTraceElement"))) (t' := (.object "java/lang/String")) (by decide) (by decide)))
  clear F92
  have F114 : fd5 Z h102 a sS := F93.other W105 (Or.inr (slot_ne (C := "com/example/tokenward/tokenward/ApiException") (Or.inl (tw60 hw)) (Or.inl (tw62 hw)) (by decide) (t := (.object "java/util/List")) (t' := (.object "java/lang/String")) (by decide) (by decide)))
  clear F93
  have F115 : fd1 Z h102 a mv := F94.same W105
  clear F94
  have F116 : fd2 Z h102 a (.int (0 : Int32)) := F95.other W105 (Or.inr (slot_ne (C := "com/example/tokenward/tokenward/ApiException") (Or.inr (tw64 hw)) (Or.inl (tw62 hw)) (by decide) (t := .int) (t' := (.object "java/lang/String")) (by decide) (by decide)))
  clear F95
  have F117 : Sta Z h102 "java/lang/Throwable" "UNASSIGNED_STACK" "[Ljava/lang/StackTraceElement;" uS := F96.wr W105
  clear F96
  have F118 : Sta Z h102 "java/lang/Throwable" "SUPPRESSED_SENTINEL" "Ljava/util/List;" sS := F97.wr W105
  clear F97
  have Z119 : n0 ≤ h102.size := by rw [W105.size]; exact Z98
  clear Z98
  have K120 : Keep h0 h102 [a] := K99.wr W105 (Or.inl (List.mem_of_getElem? (i := 0) rfl))
  clear K99
  have k121 : own_G p e below E0 T101 (mkF m 48 #[vr a, .val mv, .val .null, vi (0 : Int32), vi (0 : Int32)] [.null, (.ref a)]) := by
    intro tQ kk
    refine k108 tQ ?_
    refine XS.aloadN X103.here hx rfl (hb hby d_jdk_78_method_5_code_46) rfl rfl ?_
    refine XS.aloadN X103.here hx rfl (hb hby d_jdk_78_method_5_code_47) rfl rfl ?_
    exact kk
  clear k108
  obtain ⟨T122, h123, X124, e125, W126, st127⟩ := putF X103 hx hZ hown (host := "") (Or.inl (tw53 hw)) Via.refl e104 F112 F109 (Or.inl (tw54 hw)) (tw31 hw) (ty := (.object "java/lang/Throwable")) (by decide) rfl rfl (g := (mkF m 48 #[vr a, .val mv, .val .null, vi (0 : Int32), vi (0 : Int32)] [.null, (.ref a)])) rfl rfl (hb hby d_jdk_78_method_5_code_48)
  have N128 := Fr.snoc X124 N107 ge_a
  have k129 : own_G p e below E0 T122 (mkF m 51 #[vr a, .val mv, .val .null, vi (0 : Int32), vi (0 : Int32)] []) := fun tQ kk => k121 tQ (st127 _ kk)
  clear k121 st127
  have F130 : xa3 Z h123 a := F109.wr W126
  clear F109
  have F131 : Unt h123 a := F110.wr W126
  clear F110
  have F132 : Old Z n0 h123 := F111.wr W126 ge_a
  clear F111
  have F133 : fd0 Z h123 a .null := F112.same W126
  clear F112
  have F134 : fd4 Z h123 a .null := F113.other W126 (Or.inr (slot_ne (C := "com/example/tokenward/tokenward/ApiException") (Or.inl (tw57 hw)) (Or.inl (tw54 hw)) (by decide) (t := (.array (.object "java/lang/StackTraceElement"))) (t' := (.object "java/lang/Throwable")) (by decide) (by decide)))
  clear F113
  have F135 : fd5 Z h123 a sS := F114.other W126 (Or.inr (slot_ne (C := "com/example/tokenward/tokenward/ApiException") (Or.inl (tw60 hw)) (Or.inl (tw54 hw)) (by decide) (t := (.object "java/util/List")) (t' := (.object "java/lang/Throwable")) (by decide) (by decide)))
  clear F114
  have F136 : fd1 Z h123 a mv := F115.other W126 (Or.inr (slot_ne (C := "com/example/tokenward/tokenward/ApiException") (Or.inl (tw62 hw)) (Or.inl (tw54 hw)) (by decide) (t := (.object "java/lang/String")) (t' := (.object "java/lang/Throwable")) (by decide) (by decide)))
  clear F115
  have F137 : fd2 Z h123 a (.int (0 : Int32)) := F116.other W126 (Or.inr (slot_ne (C := "com/example/tokenward/tokenward/ApiException") (Or.inr (tw64 hw)) (Or.inl (tw54 hw)) (by decide) (t := .int) (t' := (.object "java/lang/Throwable")) (by decide) (by decide)))
  clear F116
  have F138 : Sta Z h123 "java/lang/Throwable" "UNASSIGNED_STACK" "[Ljava/lang/StackTraceElement;" uS := F117.wr W126
  clear F117
  have F139 : Sta Z h123 "java/lang/Throwable" "SUPPRESSED_SENTINEL" "Ljava/util/List;" sS := F118.wr W126
  clear F118
  have Z140 : n0 ≤ h123.size := by rw [W126.size]; exact Z119
  clear Z119
  have K141 : Keep h0 h123 [a] := K120.wr W126 (Or.inl (List.mem_of_getElem? (i := 0) rfl))
  clear K120
  have k142 : own_G p e below E0 T122 (mkF m 57 #[vr a, .val mv, .val .null, vi (0 : Int32), vi (0 : Int32)] [.null, (.ref a)]) := by
    intro tQ kk
    refine k129 tQ ?_
    refine XS.iloadN X124.here hx rfl (hb hby d_jdk_78_method_5_code_51) rfl ?_
    refine XS.ifNo X124.here hx rfl (hb hby d_jdk_78_method_5_code_52) rfl (own_if_neN (by decide)) ?_
    refine XS.aloadN X124.here hx rfl (hb hby d_jdk_78_method_5_code_55) rfl rfl ?_
    refine XS.aconstNull X124.here hx rfl (hb hby d_jdk_78_method_5_code_56) ?_
    exact kk
  clear k129
  obtain ⟨T143, h144, X145, e146, W147, st148⟩ := putF X124 hx hZ hown (host := "") (Or.inl (tw59 hw)) Via.refl e125 F135 F130 (Or.inl (tw60 hw)) (tw31 hw) (ty := (.object "java/util/List")) (by decide) rfl rfl (g := (mkF m 57 #[vr a, .val mv, .val .null, vi (0 : Int32), vi (0 : Int32)] [.null, (.ref a)])) rfl rfl (hb hby d_jdk_78_method_5_code_57)
  have N149 := Fr.snoc X145 N128 ge_a
  have k150 : own_G p e below E0 T143 (mkF m 60 #[vr a, .val mv, .val .null, vi (0 : Int32), vi (0 : Int32)] []) := fun tQ kk => k142 tQ (st148 _ kk)
  clear k142 st148
  have F151 : xa3 Z h144 a := F130.wr W147
  clear F130
  have F152 : Unt h144 a := F131.wr W147
  clear F131
  have F153 : Old Z n0 h144 := F132.wr W147 ge_a
  clear F132
  have F154 : fd0 Z h144 a .null := F133.other W147 (Or.inr (slot_ne (C := "com/example/tokenward/tokenward/ApiException") (Or.inl (tw54 hw)) (Or.inl (tw60 hw)) (by decide) (t := (.object "java/lang/Throwable")) (t' := (.object "java/util/List")) (by decide) (by decide)))
  clear F133
  have F155 : fd4 Z h144 a .null := F134.other W147 (Or.inr (slot_ne (C := "com/example/tokenward/tokenward/ApiException") (Or.inl (tw57 hw)) (Or.inl (tw60 hw)) (by decide) (t := (.array (.object "java/lang/StackTraceElement"))) (t' := (.object "java/util/List")) (by decide) (by decide)))
  clear F134
  have F156 : fd5 Z h144 a .null := F135.same W147
  clear F135
  have F157 : fd1 Z h144 a mv := F136.other W147 (Or.inr (slot_ne (C := "com/example/tokenward/tokenward/ApiException") (Or.inl (tw62 hw)) (Or.inl (tw60 hw)) (by decide) (t := (.object "java/lang/String")) (t' := (.object "java/util/List")) (by decide) (by decide)))
  clear F136
  have F158 : fd2 Z h144 a (.int (0 : Int32)) := F137.other W147 (Or.inr (slot_ne (C := "com/example/tokenward/tokenward/ApiException") (Or.inr (tw64 hw)) (Or.inl (tw60 hw)) (by decide) (t := .int) (t' := (.object "java/util/List")) (by decide) (by decide)))
  clear F137
  have F159 : Sta Z h144 "java/lang/Throwable" "UNASSIGNED_STACK" "[Ljava/lang/StackTraceElement;" uS := F138.wr W147
  clear F138
  have F160 : Sta Z h144 "java/lang/Throwable" "SUPPRESSED_SENTINEL" "Ljava/util/List;" sS := F139.wr W147
  clear F139
  have Z161 : n0 ≤ h144.size := by rw [W147.size]; exact Z140
  clear Z140
  have K162 : Keep h0 h144 [a] := K141.wr W147 (Or.inl (List.mem_of_getElem? (i := 0) rfl))
  clear K141
  obtain ⟨fs, hr, hrun, hended, hW, hsame⟩ := X145.leave (v := none) (fun _ => rfl)
  have hrun0 := k150 _ (X145.returnOut hx Bd.returns (hb hby d_jdk_78_method_5_code_60) hr)
  subst hE0
  refine ⟨_, _, hrun0, hrun, hended, _, _, rfl, ?_, ⟨_, rfl⟩, hW, hsame.mono (by decide) (by decide)⟩
  show QrmT Z a mv uS sS h0 n0 _ T143.heap _
  rw [e146]
  exact ⟨rfl, N149, K162, F154, F157, F158, F152⟩
def QrmE (Z : State) (a : Addr) (mv : Value) (uS : Value) (sS : Value) (h0 : Heap) (n0 : Nat) (vQ : Option Value) (hQ : Heap) (LQ : List Loc) : Prop := vQ = none ∧ Fr n0 LQ ∧ Keep h0 hQ [a] ∧ (fd0 Z hQ a .null) ∧ (fd1 Z hQ a mv) ∧ (fd2 Z hQ a (.int (0 : Int32))) ∧ (Unt hQ a)
theorem ef_rmE (m : MethodId) (a : Addr) (mv : Value) (uS : Value) (sS : Value) (hm : mv.isRef = true) : entryFrame m #[(.ref a), mv, .null, (.int (0 : Int32)), (.int (0 : Int32))] 5 = mkF m 0 #[vr a, .val mv, .val .null, vi (0 : Int32), vi (0 : Int32)] [] := by cases mv <;> cases hm <;> first | (simp [entryFrame, mkF, argsToLocals, Value.category]; done) | rfl
abbrev mn7 : MethodName := ⟨"java/lang/Exception", "<init>", "(Ljava/lang/String;Ljava/lang/Throwable;ZZ)V"⟩
theorem pn_java_lang_Exception : plainName "java/lang/Exception" = true := by first | (simp [plainName, overriddenIn]; done) | decide +kernel
theorem d_jdk_59_method_5_code_0 : decode jdk_59_method_5_code 0 = .ok (.aload_n 0, 1) := by decide +kernel
theorem d_jdk_59_method_5_code_1 : decode jdk_59_method_5_code 1 = .ok (.aload_n 1, 1) := by decide +kernel
theorem d_jdk_59_method_5_code_2 : decode jdk_59_method_5_code 2 = .ok (.aload_n 2, 1) := by decide +kernel
theorem d_jdk_59_method_5_code_3 : decode jdk_59_method_5_code 3 = .ok (.iload_n 3, 1) := by decide +kernel
theorem d_jdk_59_method_5_code_4 : decode jdk_59_method_5_code 4 = .ok (.iload 4, 2) := by decide +kernel
theorem d_jdk_59_method_5_code_6 : decode jdk_59_method_5_code 6 = .ok (.invokespecial 16, 3) := by decide +kernel
def tw46 {Z : State} {a0 : Array Value} (hw : ∀ d ∈ tables_1, d.before a0 Z = true) := hw _ (List.mem_of_getElem? (i := 46) rfl)
def tw51 {Z : State} {a0 : Array Value} (hw : ∀ d ∈ tables_1, d.before a0 Z = true) := hw _ (List.mem_of_getElem? (i := 51) rfl)
def tw50 {Z : State} {a0 : Array Value} (hw : ∀ d ∈ tables_1, d.before a0 Z = true) := hw _ (List.mem_of_getElem? (i := 50) rfl)
theorem pd_8 : parseMethodDescriptor "(Ljava/lang/String;Ljava/lang/Throwable;ZZ)V" = some ⟨[(.object "java/lang/String"), (.object "java/lang/Throwable"), .boolean, .boolean], none⟩ := by decide +kernel
def tw47 {Z : State} {a0 : Array Value} (hw : ∀ d ∈ tables_1, d.before a0 Z = true) := hw _ (List.mem_of_getElem? (i := 47) rfl)
theorem d_jdk_59_method_5_code_9 : decode jdk_59_method_5_code 9 = .ok (.return_, 1) := by decide +kernel
set_option maxRecDepth 65536 in
set_option maxHeartbeats 40000000 in
theorem rmE (l : Launch) (Z : State) (a0 : Array Value) (hw : ∀ d ∈ tables_1, d.before a0 Z = true) (ws : List Jvm.Cond) (a : Addr) (mv : Value) (uS : Value) (sS : Value) (h0 : Heap) (n0 : Nat) (Z0 : n0 ≤ h0.size) (E1 : xa3 Z h0 a) (U1 : Unt h0 a) (O1 : Old Z n0 h0) (F0 : fd0 Z h0 a .null) (F1 : fd4 Z h0 a .null) (F2 : fd5 Z h0 a .null) (F3 : fd1 Z h0 a .null) (F9 : fd2 Z h0 a (.int (0 : Int32))) (ge_a : n0 ≤ a) (hm : mv.isRef = true) (oU : Sta Z Z.heap "java/lang/Throwable" "UNASSIGNED_STACK" "[Ljava/lang/StackTraceElement;" uS) (hu : uS.isRef = true) (oS : Sta Z Z.heap "java/lang/Throwable" "SUPPRESSED_SENTINEL" "Ljava/util/List;" sS) (hs : sS.isRef = true) :
    MetFree l mn7 (head1 (Jvm.Cond.code mn7 jdk_59_method_5_code 5 none :: ws) ({ frames := 2, cells := 0, slots := 0, locals := 30 } : Room)) (fun aA U => aA = #[(.ref a), mv, .null, (.int (0 : Int32)), (.int (0 : Int32))] ∧ Z.Warmed39 U.vm ∧ U.heap = h0) (fun _ _ _ _ _ => True) (fun _ U o U' => ∃ vR LR, o = .returned vR ∧ QrmE Z a mv uS sS h0 n0 vR U'.heap LR ∧ FrameEnd U o U' LR ({ frames := 2, cells := 0, slots := 0, locals := 30 } : Room).cells ({ frames := 2, cells := 0, slots := 0, locals := 30 } : Room).slots) := by
  refine MetFree.of_bodySF (plainFor_of_name pn_java_lang_Exception) hisR ?_
  intro p e s m args below meth c s₁ Bd hml0 hPre hKk
  obtain ⟨rfl, hZ, hh⟩ := hPre
  have hx := Bd.exec
  have hby := Bd.bytes
  skip
  have hml : c.maxLocals = 5 := hml0
  have hown : s.vm.findClass "java/lang/Exception" = some m.cls := findClass_of_methodNamed Bd.named
  have hnm := (name_of_methodNamed Bd.named Bd.method).1
  have X0 : Stand p l e ({ frames := 2, cells := 0, slots := 0, locals := 30 } : Room) s m #[(.ref a), mv, .null, (.int (0 : Int32)), (.int (0 : Int32))] below meth c s₁ [] 0 0 := Stand.of_body Bd
  have e0 : s₁.heap = h0 := by rw [← hh, Bd.state]; rfl
  have N0 := Fr.nil n0
  obtain ⟨E0, hE0⟩ : ∃ zE : State, zE = s₁.setTop (entryFrame m #[(.ref a), mv, .null, (.int (0 : Int32)), (.int (0 : Int32))] 5) := ⟨_, rfl⟩
  have k0 : own_G p e below E0 s₁ (mkF m 0 #[vr a, .val mv, .val .null, vi (0 : Int32), vi (0 : Int32)] []) := fun tz kz => hE0 ▸ castTop (ef_rmE m a mv uS sS hm) kz
  have K0 : Keep h0 h0 [a] := Keep.refl _ _
  have k163 : own_G p e below E0 s₁ (mkF m 6 #[vr a, .val mv, .val .null, vi (0 : Int32), vi (0 : Int32)] [(.int (0 : Int32)), (.int (0 : Int32)), .null, mv, (.ref a)]) := by
    intro tQ kk
    refine k0 tQ ?_
    refine XS.aloadN X0.here hx rfl (hb hby d_jdk_59_method_5_code_0) rfl rfl ?_
    refine XS.aloadN X0.here hx rfl (hb hby d_jdk_59_method_5_code_1) rfl hm ?_
    refine XS.aloadN X0.here hx rfl (hb hby d_jdk_59_method_5_code_2) rfl rfl ?_
    refine XS.iloadN X0.here hx rfl (hb hby d_jdk_59_method_5_code_3) rfl ?_
    show Steps p.tables e below (s₁.setTop (mkF m 4 #[vr a, .val mv, .val .null, vi (0 : Int32), vi (0 : Int32)] [(.int (0 : Int32)), .null, mv, (.ref a)])) tQ
    refine XS.iload X0.here hx rfl (hb hby d_jdk_59_method_5_code_4) rfl ?_
    exact kk
  clear k0
  obtain ⟨_, _, ⟨T164, L165, kc166, nc167⟩, -, X168, ⟨Lc169, hQ170, l171, y172, z173⟩, st174⟩ := X0.specialBack hx (y := mn6) rfl hown (mvT hZ (tw46 hw)) (mvT hZ (tw47 hw)) (mvT hZ (tw51 hw)) (by decide) (backOf (W := 0) (rmT l Z a0 hw [] a mv uS sS h0 n0 Z0 E1 U1 O1 F0 F1 F2 F3 F9 ge_a hm oU hu oS hs) hZ (tw51 hw) (tw50 hw) (by decide) (by decide)) (g := (mkF m 6 #[vr a, .val mv, .val .null, vi (0 : Int32), vi (0 : Int32)] [(.int (0 : Int32)), (.int (0 : Int32)), .null, mv, (.ref a)])) rfl (by rw [hml]; rfl) (Steps.refl _) (a := a) (argsL := [mv, .null, (.int (0 : Int32)), (.int (0 : Int32))]) (rest := []) (lenOf pd_8 rfl) rfl (by show 2 * 0 + _ ≤ _; exact Nat.le_of_eq rfl) (hb hby d_jdk_59_method_5_code_6) (fun _ _ => ⟨rfl, e0, (by decide : 0 + 0 ≤ _), (by decide : 0 + 0 ≤ _)⟩)
  dsimp only [Pt.U, Pt.locs, Pt.cells, Pt.slots] at X168 l171 y172 z173 st174 hQ170
  subst y172 z173
  obtain ⟨rfl, N175, K178, g179, g180, g181, g182⟩ := hQ170
  have N183 : Fr n0 L165 := by rw [l171]; exact Fr.app N0 N175
  clear l171 N175
  have Z184 : n0 ≤ T164.heap.size := Nat.le_trans Z0 K178.1
  have F185 : xa3 Z T164.heap a := E1.keep K178
  clear E1
  clear U1
  have F186 : Old Z n0 T164.heap := O1.keep K178 (allS ge_a all0)
  clear O1
  clear F0
  clear F1
  clear F2
  clear F3
  clear F9
  have K187 : Keep h0 T164.heap [a] := K0.trans K178 (allS (Or.inl (List.mem_of_getElem? (i := 0) rfl)) all0)
  have k188 : own_G p e below E0 T164 (mkF m 9 #[vr a, .val mv, .val .null, vi (0 : Int32), vi (0 : Int32)] []) := fun tQ kk => k163 tQ (st174.trans kk)
  clear k163 st174
  obtain ⟨fs, hr, hrun, hended, hW, hsame⟩ := X168.leave (v := none) (fun _ => rfl)
  have hrun0 := k188 _ (X168.returnOut hx Bd.returns (hb hby d_jdk_59_method_5_code_9) hr)
  subst hE0
  refine ⟨_, _, hrun0, hrun, hended, _, _, rfl, ?_, ⟨_, rfl⟩, hW, hsame.mono (by decide) (by decide)⟩
  show QrmE Z a mv uS sS h0 n0 _ T164.heap _
  exact ⟨rfl, N183, K187, g179, g180, g181, g182⟩
def QrmRt (Z : State) (a : Addr) (mv : Value) (uS : Value) (sS : Value) (h0 : Heap) (n0 : Nat) (vQ : Option Value) (hQ : Heap) (LQ : List Loc) : Prop := vQ = none ∧ Fr n0 LQ ∧ Keep h0 hQ [a] ∧ (fd0 Z hQ a .null) ∧ (fd1 Z hQ a mv) ∧ (fd2 Z hQ a (.int (0 : Int32))) ∧ (Unt hQ a)
theorem ef_rmRt (m : MethodId) (a : Addr) (mv : Value) (uS : Value) (sS : Value) (hm : mv.isRef = true) : entryFrame m #[(.ref a), mv, .null, (.int (0 : Int32)), (.int (0 : Int32))] 5 = mkF m 0 #[vr a, .val mv, .val .null, vi (0 : Int32), vi (0 : Int32)] [] := by cases mv <;> cases hm <;> first | (simp [entryFrame, mkF, argsToLocals, Value.category]; done) | rfl
abbrev mn9 : MethodName := ⟨"java/lang/RuntimeException", "<init>", "(Ljava/lang/String;Ljava/lang/Throwable;ZZ)V"⟩
theorem pn_java_lang_RuntimeException : plainName "java/lang/RuntimeException" = true := by first | (simp [plainName, overriddenIn]; done) | decide +kernel
theorem d_jdk_58_method_5_code_0 : decode jdk_58_method_5_code 0 = .ok (.aload_n 0, 1) := by decide +kernel
theorem d_jdk_58_method_5_code_1 : decode jdk_58_method_5_code 1 = .ok (.aload_n 1, 1) := by decide +kernel
theorem d_jdk_58_method_5_code_2 : decode jdk_58_method_5_code 2 = .ok (.aload_n 2, 1) := by decide +kernel
theorem d_jdk_58_method_5_code_3 : decode jdk_58_method_5_code 3 = .ok (.iload_n 3, 1) := by decide +kernel
theorem d_jdk_58_method_5_code_4 : decode jdk_58_method_5_code 4 = .ok (.iload 4, 2) := by decide +kernel
theorem d_jdk_58_method_5_code_6 : decode jdk_58_method_5_code 6 = .ok (.invokespecial 16, 3) := by decide +kernel
def tw40 {Z : State} {a0 : Array Value} (hw : ∀ d ∈ tables_1, d.before a0 Z = true) := hw _ (List.mem_of_getElem? (i := 40) rfl)
def tw45 {Z : State} {a0 : Array Value} (hw : ∀ d ∈ tables_1, d.before a0 Z = true) := hw _ (List.mem_of_getElem? (i := 45) rfl)
def tw44 {Z : State} {a0 : Array Value} (hw : ∀ d ∈ tables_1, d.before a0 Z = true) := hw _ (List.mem_of_getElem? (i := 44) rfl)
def tw41 {Z : State} {a0 : Array Value} (hw : ∀ d ∈ tables_1, d.before a0 Z = true) := hw _ (List.mem_of_getElem? (i := 41) rfl)
theorem d_jdk_58_method_5_code_9 : decode jdk_58_method_5_code 9 = .ok (.return_, 1) := by decide +kernel
set_option maxRecDepth 65536 in
set_option maxHeartbeats 40000000 in
theorem rmRt (l : Launch) (Z : State) (a0 : Array Value) (hw : ∀ d ∈ tables_1, d.before a0 Z = true) (ws : List Jvm.Cond) (a : Addr) (mv : Value) (uS : Value) (sS : Value) (h0 : Heap) (n0 : Nat) (Z0 : n0 ≤ h0.size) (E1 : xa3 Z h0 a) (U1 : Unt h0 a) (O1 : Old Z n0 h0) (F0 : fd0 Z h0 a .null) (F1 : fd4 Z h0 a .null) (F2 : fd5 Z h0 a .null) (F3 : fd1 Z h0 a .null) (F9 : fd2 Z h0 a (.int (0 : Int32))) (ge_a : n0 ≤ a) (hm : mv.isRef = true) (oU : Sta Z Z.heap "java/lang/Throwable" "UNASSIGNED_STACK" "[Ljava/lang/StackTraceElement;" uS) (hu : uS.isRef = true) (oS : Sta Z Z.heap "java/lang/Throwable" "SUPPRESSED_SENTINEL" "Ljava/util/List;" sS) (hs : sS.isRef = true) :
    MetFree l mn9 (head1 (Jvm.Cond.code mn9 jdk_58_method_5_code 5 none :: ws) ({ frames := 3, cells := 0, slots := 0, locals := 48 } : Room)) (fun aA U => aA = #[(.ref a), mv, .null, (.int (0 : Int32)), (.int (0 : Int32))] ∧ Z.Warmed39 U.vm ∧ U.heap = h0) (fun _ _ _ _ _ => True) (fun _ U o U' => ∃ vR LR, o = .returned vR ∧ QrmRt Z a mv uS sS h0 n0 vR U'.heap LR ∧ FrameEnd U o U' LR ({ frames := 3, cells := 0, slots := 0, locals := 48 } : Room).cells ({ frames := 3, cells := 0, slots := 0, locals := 48 } : Room).slots) := by
  refine MetFree.of_bodySF (plainFor_of_name pn_java_lang_RuntimeException) hisR ?_
  intro p e s m args below meth c s₁ Bd hml0 hPre hKk
  obtain ⟨rfl, hZ, hh⟩ := hPre
  have hx := Bd.exec
  have hby := Bd.bytes
  skip
  have hml : c.maxLocals = 5 := hml0
  have hown : s.vm.findClass "java/lang/RuntimeException" = some m.cls := findClass_of_methodNamed Bd.named
  have hnm := (name_of_methodNamed Bd.named Bd.method).1
  have X0 : Stand p l e ({ frames := 3, cells := 0, slots := 0, locals := 48 } : Room) s m #[(.ref a), mv, .null, (.int (0 : Int32)), (.int (0 : Int32))] below meth c s₁ [] 0 0 := Stand.of_body Bd
  have e0 : s₁.heap = h0 := by rw [← hh, Bd.state]; rfl
  have N0 := Fr.nil n0
  obtain ⟨E0, hE0⟩ : ∃ zE : State, zE = s₁.setTop (entryFrame m #[(.ref a), mv, .null, (.int (0 : Int32)), (.int (0 : Int32))] 5) := ⟨_, rfl⟩
  have k0 : own_G p e below E0 s₁ (mkF m 0 #[vr a, .val mv, .val .null, vi (0 : Int32), vi (0 : Int32)] []) := fun tz kz => hE0 ▸ castTop (ef_rmRt m a mv uS sS hm) kz
  have K0 : Keep h0 h0 [a] := Keep.refl _ _
  have k189 : own_G p e below E0 s₁ (mkF m 6 #[vr a, .val mv, .val .null, vi (0 : Int32), vi (0 : Int32)] [(.int (0 : Int32)), (.int (0 : Int32)), .null, mv, (.ref a)]) := by
    intro tQ kk
    refine k0 tQ ?_
    refine XS.aloadN X0.here hx rfl (hb hby d_jdk_58_method_5_code_0) rfl rfl ?_
    refine XS.aloadN X0.here hx rfl (hb hby d_jdk_58_method_5_code_1) rfl hm ?_
    refine XS.aloadN X0.here hx rfl (hb hby d_jdk_58_method_5_code_2) rfl rfl ?_
    refine XS.iloadN X0.here hx rfl (hb hby d_jdk_58_method_5_code_3) rfl ?_
    show Steps p.tables e below (s₁.setTop (mkF m 4 #[vr a, .val mv, .val .null, vi (0 : Int32), vi (0 : Int32)] [(.int (0 : Int32)), .null, mv, (.ref a)])) tQ
    refine XS.iload X0.here hx rfl (hb hby d_jdk_58_method_5_code_4) rfl ?_
    exact kk
  clear k0
  obtain ⟨_, _, ⟨T190, L191, kc192, nc193⟩, -, X194, ⟨Lc195, hQ196, l197, y198, z199⟩, st200⟩ := X0.specialBack hx (y := mn7) rfl hown (mvT hZ (tw40 hw)) (mvT hZ (tw41 hw)) (mvT hZ (tw45 hw)) (by decide) (backOf (W := 0) (rmE l Z a0 hw [] a mv uS sS h0 n0 Z0 E1 U1 O1 F0 F1 F2 F3 F9 ge_a hm oU hu oS hs) hZ (tw45 hw) (tw44 hw) (by decide) (by decide)) (g := (mkF m 6 #[vr a, .val mv, .val .null, vi (0 : Int32), vi (0 : Int32)] [(.int (0 : Int32)), (.int (0 : Int32)), .null, mv, (.ref a)])) rfl (by rw [hml]; rfl) (Steps.refl _) (a := a) (argsL := [mv, .null, (.int (0 : Int32)), (.int (0 : Int32))]) (rest := []) (lenOf pd_8 rfl) rfl (by show 2 * 0 + _ ≤ _; exact Nat.le_of_eq rfl) (hb hby d_jdk_58_method_5_code_6) (fun _ _ => ⟨rfl, e0, (by decide : 0 + 0 ≤ _), (by decide : 0 + 0 ≤ _)⟩)
  dsimp only [Pt.U, Pt.locs, Pt.cells, Pt.slots] at X194 l197 y198 z199 st200 hQ196
  subst y198 z199
  obtain ⟨rfl, N201, K204, g205, g206, g207, g208⟩ := hQ196
  have N209 : Fr n0 L191 := by rw [l197]; exact Fr.app N0 N201
  clear l197 N201
  have Z210 : n0 ≤ T190.heap.size := Nat.le_trans Z0 K204.1
  have F211 : xa3 Z T190.heap a := E1.keep K204
  clear E1
  clear U1
  have F212 : Old Z n0 T190.heap := O1.keep K204 (allS ge_a all0)
  clear O1
  clear F0
  clear F1
  clear F2
  clear F3
  clear F9
  have K213 : Keep h0 T190.heap [a] := K0.trans K204 (allS (Or.inl (List.mem_of_getElem? (i := 0) rfl)) all0)
  have k214 : own_G p e below E0 T190 (mkF m 9 #[vr a, .val mv, .val .null, vi (0 : Int32), vi (0 : Int32)] []) := fun tQ kk => k189 tQ (st200.trans kk)
  clear k189 st200
  obtain ⟨fs, hr, hrun, hended, hW, hsame⟩ := X194.leave (v := none) (fun _ => rfl)
  have hrun0 := k214 _ (X194.returnOut hx Bd.returns (hb hby d_jdk_58_method_5_code_9) hr)
  subst hE0
  refine ⟨_, _, hrun0, hrun, hended, _, _, rfl, ?_, ⟨_, rfl⟩, hW, hsame.mono (by decide) (by decide)⟩
  show QrmRt Z a mv uS sS h0 n0 _ T190.heap _
  exact ⟨rfl, N209, K213, g205, g206, g207, g208⟩
def QrmI (Z : State) (a : Addr) (mv : Value) (uS : Value) (sS : Value) (h0 : Heap) (n0 : Nat) (vQ : Option Value) (hQ : Heap) (LQ : List Loc) : Prop := vQ = none ∧ Fr n0 LQ ∧ Keep h0 hQ [a] ∧ (fd0 Z hQ a .null) ∧ (fd1 Z hQ a mv) ∧ (fd2 Z hQ a (.int (400 : Int32))) ∧ (Unt hQ a)
theorem ef_rmI (m : MethodId) (a : Addr) (mv : Value) (uS : Value) (sS : Value) (hm : mv.isRef = true) : entryFrame m #[(.ref a), (.int (400 : Int32)), mv] 3 = mkF m 0 #[vr a, vi (400 : Int32), .val mv] [] := by cases mv <;> cases hm <;> first | (simp [entryFrame, mkF, argsToLocals, Value.category]; done) | rfl
abbrev mn10 : MethodName := ⟨"com/example/tokenward/tokenward/ApiException", "<init>", "(ILjava/lang/String;)V"⟩
theorem pn_com_example_tokenward_tokenward_ApiException : plainName "com/example/tokenward/tokenward/ApiException" = true := by first | (simp [plainName, overriddenIn]; done) | decide +kernel
theorem d_prog_1_method_1_code_0 : decode prog_1_method_1_code 0 = .ok (.aload_n 0, 1) := by decide +kernel
theorem d_prog_1_method_1_code_1 : decode prog_1_method_1_code 1 = .ok (.aload_n 2, 1) := by decide +kernel
theorem d_prog_1_method_1_code_2 : decode prog_1_method_1_code 2 = .ok (.aconst_null, 1) := by decide +kernel
theorem d_prog_1_method_1_code_3 : decode prog_1_method_1_code 3 = .ok (.iconst 0, 1) := by decide +kernel
theorem d_prog_1_method_1_code_4 : decode prog_1_method_1_code 4 = .ok (.iconst 0, 1) := by decide +kernel
theorem d_prog_1_method_1_code_5 : decode prog_1_method_1_code 5 = .ok (.invokespecial 1, 3) := by decide +kernel
def tw35 {Z : State} {a0 : Array Value} (hw : ∀ d ∈ tables_1, d.before a0 Z = true) := hw _ (List.mem_of_getElem? (i := 35) rfl)
def tw39 {Z : State} {a0 : Array Value} (hw : ∀ d ∈ tables_1, d.before a0 Z = true) := hw _ (List.mem_of_getElem? (i := 39) rfl)
def tw38 {Z : State} {a0 : Array Value} (hw : ∀ d ∈ tables_1, d.before a0 Z = true) := hw _ (List.mem_of_getElem? (i := 38) rfl)
def tw36 {Z : State} {a0 : Array Value} (hw : ∀ d ∈ tables_1, d.before a0 Z = true) := hw _ (List.mem_of_getElem? (i := 36) rfl)
theorem d_prog_1_method_1_code_8 : decode prog_1_method_1_code 8 = .ok (.aload_n 0, 1) := by decide +kernel
theorem d_prog_1_method_1_code_9 : decode prog_1_method_1_code 9 = .ok (.iload_n 1, 1) := by decide +kernel
theorem d_prog_1_method_1_code_10 : decode prog_1_method_1_code 10 = .ok (.putfield 7, 3) := by decide +kernel
def tw63 {Z : State} {a0 : Array Value} (hw : ∀ d ∈ tables_1, d.before a0 Z = true) := hw _ (List.mem_of_getElem? (i := 63) rfl)
theorem d_prog_1_method_1_code_13 : decode prog_1_method_1_code 13 = .ok (.return_, 1) := by decide +kernel
set_option maxRecDepth 65536 in
set_option maxHeartbeats 40000000 in
theorem rmI (l : Launch) (Z : State) (a0 : Array Value) (hw : ∀ d ∈ tables_1, d.before a0 Z = true) (ws : List Jvm.Cond) (a : Addr) (mv : Value) (uS : Value) (sS : Value) (h0 : Heap) (n0 : Nat) (Z0 : n0 ≤ h0.size) (E1 : xa3 Z h0 a) (U1 : Unt h0 a) (O1 : Old Z n0 h0) (F0 : fd0 Z h0 a .null) (F1 : fd4 Z h0 a .null) (F2 : fd5 Z h0 a .null) (F3 : fd1 Z h0 a .null) (F9 : fd2 Z h0 a (.int (0 : Int32))) (ge_a : n0 ≤ a) (hm : mv.isRef = true) (oU : Sta Z Z.heap "java/lang/Throwable" "UNASSIGNED_STACK" "[Ljava/lang/StackTraceElement;" uS) (hu : uS.isRef = true) (oS : Sta Z Z.heap "java/lang/Throwable" "SUPPRESSED_SENTINEL" "Ljava/util/List;" sS) (hs : sS.isRef = true) :
    MetFree l mn10 (head1 (Jvm.Cond.code mn10 prog_1_method_1_code 3 none :: ws) ({ frames := 4, cells := 0, slots := 0, locals := 66 } : Room)) (fun aA U => aA = #[(.ref a), (.int (400 : Int32)), mv] ∧ Z.Warmed39 U.vm ∧ U.heap = h0) (fun _ _ _ _ _ => True) (fun _ U o U' => ∃ vR LR, o = .returned vR ∧ QrmI Z a mv uS sS h0 n0 vR U'.heap LR ∧ FrameEnd U o U' LR ({ frames := 4, cells := 0, slots := 0, locals := 66 } : Room).cells ({ frames := 4, cells := 0, slots := 0, locals := 66 } : Room).slots) := by
  refine MetFree.of_bodySF (plainFor_of_name pn_com_example_tokenward_tokenward_ApiException) hisR ?_
  intro p e s m args below meth c s₁ Bd hml0 hPre hKk
  obtain ⟨rfl, hZ, hh⟩ := hPre
  have hx := Bd.exec
  have hby := Bd.bytes
  skip
  have hml : c.maxLocals = 3 := hml0
  have hown : s.vm.findClass "com/example/tokenward/tokenward/ApiException" = some m.cls := findClass_of_methodNamed Bd.named
  have hnm := (name_of_methodNamed Bd.named Bd.method).1
  have X0 : Stand p l e ({ frames := 4, cells := 0, slots := 0, locals := 66 } : Room) s m #[(.ref a), (.int (400 : Int32)), mv] below meth c s₁ [] 0 0 := Stand.of_body Bd
  have e0 : s₁.heap = h0 := by rw [← hh, Bd.state]; rfl
  have N0 := Fr.nil n0
  obtain ⟨E0, hE0⟩ : ∃ zE : State, zE = s₁.setTop (entryFrame m #[(.ref a), (.int (400 : Int32)), mv] 3) := ⟨_, rfl⟩
  have k0 : own_G p e below E0 s₁ (mkF m 0 #[vr a, vi (400 : Int32), .val mv] []) := fun tz kz => hE0 ▸ castTop (ef_rmI m a mv uS sS hm) kz
  have K0 : Keep h0 h0 [a] := Keep.refl _ _
  have k215 : own_G p e below E0 s₁ (mkF m 5 #[vr a, vi (400 : Int32), .val mv] [(.int (0 : Int32)), (.int (0 : Int32)), .null, mv, (.ref a)]) := by
    intro tQ kk
    refine k0 tQ ?_
    refine XS.aloadN X0.here hx rfl (hb hby d_prog_1_method_1_code_0) rfl rfl ?_
    refine XS.aloadN X0.here hx rfl (hb hby d_prog_1_method_1_code_1) rfl hm ?_
    refine XS.aconstNull X0.here hx rfl (hb hby d_prog_1_method_1_code_2) ?_
    refine XS.iconst X0.here hx rfl (hb hby d_prog_1_method_1_code_3) ?_
    show Steps p.tables e below (s₁.setTop (mkF m 4 #[vr a, vi (400 : Int32), .val mv] [(.int (0 : Int32)), .null, mv, (.ref a)])) tQ
    refine XS.iconst X0.here hx rfl (hb hby d_prog_1_method_1_code_4) ?_
    exact kk
  clear k0
  obtain ⟨_, _, ⟨T216, L217, kc218, nc219⟩, -, X220, ⟨Lc221, hQ222, l223, y224, z225⟩, st226⟩ := X0.specialBack hx (y := mn9) rfl hown (mvT hZ (tw35 hw)) (mvT hZ (tw36 hw)) (mvT hZ (tw39 hw)) (by decide) (backOf (W := 0) (rmRt l Z a0 hw [] a mv uS sS h0 n0 Z0 E1 U1 O1 F0 F1 F2 F3 F9 ge_a hm oU hu oS hs) hZ (tw39 hw) (tw38 hw) (by decide) (by decide)) (g := (mkF m 5 #[vr a, vi (400 : Int32), .val mv] [(.int (0 : Int32)), (.int (0 : Int32)), .null, mv, (.ref a)])) rfl (by rw [hml]; rfl) (Steps.refl _) (a := a) (argsL := [mv, .null, (.int (0 : Int32)), (.int (0 : Int32))]) (rest := []) (lenOf pd_8 rfl) rfl (by show 2 * 0 + _ ≤ _; exact Nat.le_of_eq rfl) (hb hby d_prog_1_method_1_code_5) (fun _ _ => ⟨rfl, e0, (by decide : 0 + 0 ≤ _), (by decide : 0 + 0 ≤ _)⟩)
  dsimp only [Pt.U, Pt.locs, Pt.cells, Pt.slots] at X220 l223 y224 z225 st226 hQ222
  subst y224 z225
  obtain ⟨rfl, N227, K230, g231, g232, g233, g234⟩ := hQ222
  have N235 : Fr n0 L217 := by rw [l223]; exact Fr.app N0 N227
  clear l223 N227
  have Z236 : n0 ≤ T216.heap.size := Nat.le_trans Z0 K230.1
  have F237 : xa3 Z T216.heap a := E1.keep K230
  clear E1
  clear U1
  have F238 : Old Z n0 T216.heap := O1.keep K230 (allS ge_a all0)
  clear O1
  clear F0
  clear F1
  clear F2
  clear F3
  clear F9
  have K239 : Keep h0 T216.heap [a] := K0.trans K230 (allS (Or.inl (List.mem_of_getElem? (i := 0) rfl)) all0)
  have k240 : own_G p e below E0 T216 (mkF m 8 #[vr a, vi (400 : Int32), .val mv] []) := fun tQ kk => k215 tQ (st226.trans kk)
  clear k215 st226
  have k241 : own_G p e below E0 T216 (mkF m 10 #[vr a, vi (400 : Int32), .val mv] [(.int (400 : Int32)), (.ref a)]) := by
    intro tQ kk
    refine k240 tQ ?_
    refine XS.aloadN X220.here hx rfl (hb hby d_prog_1_method_1_code_8) rfl rfl ?_
    refine XS.iloadN X220.here hx rfl (hb hby d_prog_1_method_1_code_9) rfl ?_
    exact kk
  clear k240
  obtain ⟨T242, h243, X244, e245, W246, st247⟩ := putF X220 hx hZ hown (host := "") (Or.inl (tw63 hw)) Via.refl rfl g233 F237 (Or.inr ⟨(tw64 hw), rfl, hnm⟩) (tw31 hw) (ty := .int) (by decide) rfl rfl (g := (mkF m 10 #[vr a, vi (400 : Int32), .val mv] [(.int (400 : Int32)), (.ref a)])) rfl rfl (hb hby d_prog_1_method_1_code_10)
  have N248 := Fr.snoc X244 N235 ge_a
  have k249 : own_G p e below E0 T242 (mkF m 13 #[vr a, vi (400 : Int32), .val mv] []) := fun tQ kk => k241 tQ (st247 _ kk)
  clear k241 st247
  have F250 : xa3 Z h243 a := F237.wr W246
  clear F237
  have F251 : Old Z n0 h243 := F238.wr W246 ge_a
  clear F238
  have F252 : fd0 Z h243 a .null := g231.other W246 (Or.inr (slot_ne (C := "com/example/tokenward/tokenward/ApiException") (Or.inl (tw54 hw)) (Or.inr (tw64 hw)) (by decide) (t := (.object "java/lang/Throwable")) (t' := .int) (by decide) (by decide)))
  clear g231
  have F253 : fd1 Z h243 a mv := g232.other W246 (Or.inr (slot_ne (C := "com/example/tokenward/tokenward/ApiException") (Or.inl (tw62 hw)) (Or.inr (tw64 hw)) (by decide) (t := (.object "java/lang/String")) (t' := .int) (by decide) (by decide)))
  clear g232
  have F254 : fd2 Z h243 a (.int (400 : Int32)) := g233.same W246
  clear g233
  have F255 : Unt h243 a := g234.wr W246
  clear g234
  have Z256 : n0 ≤ h243.size := by rw [W246.size]; exact Z236
  clear Z236
  have K257 : Keep h0 h243 [a] := K239.wr W246 (Or.inl (List.mem_of_getElem? (i := 0) rfl))
  clear K239
  obtain ⟨fs, hr, hrun, hended, hW, hsame⟩ := X244.leave (v := none) (fun _ => rfl)
  have hrun0 := k249 _ (X244.returnOut hx Bd.returns (hb hby d_prog_1_method_1_code_13) hr)
  subst hE0
  refine ⟨_, _, hrun0, hrun, hended, _, _, rfl, ?_, ⟨_, rfl⟩, hW, hsame.mono (by decide) (by decide)⟩
  show QrmI Z a mv uS sS h0 n0 _ T242.heap _
  rw [e245]
  exact ⟨rfl, N248, K257, F252, F253, F254, F255⟩
def QrmB (Z : State) (mv : Value) (uS : Value) (sS : Value) (h0 : Heap) (n0 : Nat) (vQ : Option Value) (hQ : Heap) (LQ : List Loc) : Prop := ∃ (r : Addr), vQ = some (.ref r) ∧ Fr n0 LQ ∧ Keep h0 hQ [] ∧ (xa3 Z hQ r) ∧ (fd0 Z hQ r .null) ∧ (fd1 Z hQ r mv) ∧ (fd2 Z hQ r (.int (400 : Int32))) ∧ (Unt hQ r) ∧ (h0.size ≤ r)
theorem ef_rmB (m : MethodId) (mv : Value) (uS : Value) (sS : Value) (hm : mv.isRef = true) : entryFrame m #[mv] 1 = mkF m 0 #[.val mv] [] := by cases mv <;> cases hm <;> first | (simp [entryFrame, mkF, argsToLocals, Value.category]; done) | rfl
abbrev mn11 : MethodName := ⟨"com/example/tokenward/tokenward/ApiException", "badRequest", "(Ljava/lang/String;)Lcom/example/tokenward/tokenward/ApiException;"⟩
theorem d_prog_1_method_2_code_0 : decode prog_1_method_2_code 0 = .ok (.new 8, 3) := by decide +kernel
def tw30 {Z : State} {a0 : Array Value} (hw : ∀ d ∈ tables_1, d.before a0 Z = true) := hw _ (List.mem_of_getElem? (i := 30) rfl)
def tw28 {Z : State} {a0 : Array Value} (hw : ∀ d ∈ tables_1, d.before a0 Z = true) := hw _ (List.mem_of_getElem? (i := 28) rfl)
theorem d_prog_1_method_2_code_3 : decode prog_1_method_2_code 3 = .ok (.dup, 1) := by decide +kernel
theorem d_prog_1_method_2_code_4 : decode prog_1_method_2_code 4 = .ok (.sipush 400, 3) := by decide +kernel
theorem d_prog_1_method_2_code_7 : decode prog_1_method_2_code 7 = .ok (.aload_n 0, 1) := by decide +kernel
theorem d_prog_1_method_2_code_8 : decode prog_1_method_2_code 8 = .ok (.invokespecial 13, 3) := by decide +kernel
def tw32 {Z : State} {a0 : Array Value} (hw : ∀ d ∈ tables_1, d.before a0 Z = true) := hw _ (List.mem_of_getElem? (i := 32) rfl)
def tw34 {Z : State} {a0 : Array Value} (hw : ∀ d ∈ tables_1, d.before a0 Z = true) := hw _ (List.mem_of_getElem? (i := 34) rfl)
theorem pd_12 : parseMethodDescriptor "(ILjava/lang/String;)V" = some ⟨[.int, (.object "java/lang/String")], none⟩ := by decide +kernel
def tw33 {Z : State} {a0 : Array Value} (hw : ∀ d ∈ tables_1, d.before a0 Z = true) := hw _ (List.mem_of_getElem? (i := 33) rfl)
theorem d_prog_1_method_2_code_11 : decode prog_1_method_2_code 11 = .ok (.areturn, 1) := by decide +kernel
set_option maxRecDepth 65536 in
set_option maxHeartbeats 40000000 in
theorem rmB (l : Launch) (Z : State) (a0 : Array Value) (hw : ∀ d ∈ tables_1, d.before a0 Z = true) (ws : List Jvm.Cond) (mv : Value) (uS : Value) (sS : Value) (h0 : Heap) (n0 : Nat) (Z0 : n0 ≤ h0.size) (O1 : Old Z n0 h0) (hm : mv.isRef = true) (oU : Sta Z Z.heap "java/lang/Throwable" "UNASSIGNED_STACK" "[Ljava/lang/StackTraceElement;" uS) (hu : uS.isRef = true) (oS : Sta Z Z.heap "java/lang/Throwable" "SUPPRESSED_SENTINEL" "Ljava/util/List;" sS) (hs : sS.isRef = true) :
    MetFree l mn11 (head1 (Jvm.Cond.code mn11 prog_1_method_2_code 1 (some (.object "com/example/tokenward/tokenward/ApiException")) :: ws) ({ frames := 5, cells := 1, slots := 7, locals := 84 } : Room)) (fun aA U => aA = #[mv] ∧ Z.Warmed39 U.vm ∧ U.heap = h0) (fun _ _ _ _ _ => True) (fun _ U o U' => ∃ vR LR, o = .returned vR ∧ QrmB Z mv uS sS h0 n0 vR U'.heap LR ∧ FrameEnd U o U' LR ({ frames := 5, cells := 1, slots := 7, locals := 84 } : Room).cells ({ frames := 5, cells := 1, slots := 7, locals := 84 } : Room).slots) := by
  refine MetFree.of_bodySF (plainFor_of_name pn_com_example_tokenward_tokenward_ApiException) hisR ?_
  intro p e s m args below meth c s₁ Bd hml0 hPre hKk
  obtain ⟨rfl, hZ, hh⟩ := hPre
  have hx := Bd.exec
  have hby := Bd.bytes
  skip
  have hml : c.maxLocals = 1 := hml0
  have hown : s.vm.findClass "com/example/tokenward/tokenward/ApiException" = some m.cls := findClass_of_methodNamed Bd.named
  have hnm := (name_of_methodNamed Bd.named Bd.method).1
  have X0 : Stand p l e ({ frames := 5, cells := 1, slots := 7, locals := 84 } : Room) s m #[mv] below meth c s₁ [] 0 0 := Stand.of_body Bd
  have e0 : s₁.heap = h0 := by rw [← hh, Bd.state]; rfl
  have N0 := Fr.nil n0
  obtain ⟨E0, hE0⟩ : ∃ zE : State, zE = s₁.setTop (entryFrame m #[mv] 1) := ⟨_, rfl⟩
  have k0 : own_G p e below E0 s₁ (mkF m 0 #[.val mv] []) := fun tz kz => hE0 ▸ castTop (ef_rmB m mv uS sS hm) kz
  have K0 : Keep h0 h0 [] := Keep.refl _ _
  obtain ⟨T258, h259, X260, e261, E262, A263, D264, Un268, st265⟩ := newO X0 hx hZ hown (tw30 hw) (tw31 hw) (tw28 hw) e0 (g := (mkF m 0 #[.val mv] [])) rfl (hb hby d_prog_1_method_2_code_0) (by decide) (by decide)
  obtain ⟨a266, g267⟩ : ∃ zA : Nat, zA = h0.size := ⟨_, rfl⟩
  rw [← g267] at A263 D264 st265 Un268
  have nw269 : h0.size ≤ a266 := own_ge_of K0.1 g267
  have ge270 : n0 ≤ a266 := own_ge_of Z0 g267
  have Z271 : n0 ≤ h259.size := Nat.le_trans Z0 E262.1
  have F272 : Old Z n0 h259 := O1.ext E262
  clear O1
  have K273 : Keep h0 h259 [] := K0.ext E262
  have Un274 : Unt h259 a266 := Un268
  have F275 : Fld Z h259 a266 "java/lang/Throwable" "cause" "Ljava/lang/Throwable;" .null := (D264 (Or.inl (tw54 hw)) (ty := (.object "java/lang/Throwable")) (by decide))
  have F276 : Fld Z h259 a266 "java/lang/Throwable" "stackTrace" "[Ljava/lang/StackTraceElement;" .null := (D264 (Or.inl (tw57 hw)) (ty := (.array (.object "java/lang/StackTraceElement"))) (by decide))
  have F277 : Fld Z h259 a266 "java/lang/Throwable" "suppressedExceptions" "Ljava/util/List;" .null := (D264 (Or.inl (tw60 hw)) (ty := (.object "java/util/List")) (by decide))
  have F278 : Fld Z h259 a266 "java/lang/Throwable" "detailMessage" "Ljava/lang/String;" .null := (D264 (Or.inl (tw62 hw)) (ty := (.object "java/lang/String")) (by decide))
  have F279 : Fld Z h259 a266 "com/example/tokenward/tokenward/ApiException" "status" "I" (.int (0 : Int32)) := (D264 (Or.inr (tw64 hw)) (ty := .int) (by decide))
  have k280 : own_G p e below E0 T258 (mkF m 3 #[.val mv] [(.ref a266)]) := fun tQ kk => k0 tQ (st265 _ kk)
  clear k0 st265
  have k281 : own_G p e below E0 T258 (mkF m 8 #[.val mv] [mv, (.int (400 : Int32)), (.ref a266), (.ref a266)]) := by
    intro tQ kk
    refine k280 tQ ?_
    refine XS.dup X260.here hx rfl (hb hby d_prog_1_method_2_code_3) rfl rfl ?_
    refine XS.sipush X260.here hx rfl (hb hby d_prog_1_method_2_code_4) ?_
    refine XS.aloadN X260.here hx rfl (hb hby d_prog_1_method_2_code_7) rfl hm ?_
    exact kk
  clear k280
  obtain ⟨_, _, ⟨T282, L283, kc284, nc285⟩, -, X286, ⟨Lc287, hQ288, l289, y290, z291⟩, st292⟩ := X260.specialBack hx (y := mn10) rfl hown (mvT hZ (tw32 hw)) (mvT hZ (tw33 hw)) (mvT hZ (tw34 hw)) (by decide) (backOf (W := 1) (rmI l Z a0 hw [] a266 mv uS sS h259 n0 Z271 A263 Un274 F272 F275 F276 F277 F278 F279 ge270 hm oU hu oS hs) hZ (tw34 hw) (tw28 hw) (by decide) (by decide)) (g := (mkF m 8 #[.val mv] [mv, (.int (400 : Int32)), (.ref a266), (.ref a266)])) rfl (by rw [hml]; rfl) (Steps.refl _) (a := a266) (argsL := [(.int (400 : Int32)), mv]) (rest := [(.ref a266)]) (lenOf pd_12 rfl) rfl (by show 2 * 0 + _ ≤ _; exact Nat.le_of_eq rfl) (hb hby d_prog_1_method_2_code_8) (fun _ _ => ⟨rfl, e261, (by decide : 1 + 0 ≤ _), (by decide : 7 + 0 ≤ _)⟩)
  dsimp only [Pt.U, Pt.locs, Pt.cells, Pt.slots] at X286 l289 y290 z291 st292 hQ288
  subst y290 z291
  obtain ⟨rfl, N293, K296, g297, g298, g299, g300⟩ := hQ288
  have N301 : Fr n0 L283 := by rw [l289]; exact Fr.app N0 N293
  clear l289 N293
  have Z302 : n0 ≤ T282.heap.size := Nat.le_trans Z271 K296.1
  clear Z271
  have F303 : Old Z n0 T282.heap := F272.keep K296 (allS ge270 all0)
  clear F272
  have F304 : xa3 Z T282.heap a266 := A263.keep K296
  clear A263
  clear Un274
  clear F275
  clear F276
  clear F277
  clear F278
  clear F279
  have K305 : Keep h0 T282.heap [] := K273.trans K296 (allS (Or.inr nw269) all0)
  clear K273
  have k306 : own_G p e below E0 T282 (mkF m 11 #[.val mv] [(.ref a266)]) := fun tQ kk => k281 tQ (st292.trans kk)
  clear k281 st292
  obtain ⟨fs, hr, hrun, hended, hW, hsame⟩ := X286.leave (v := some (.ref a266)) (fun h => by rw [Bd.returns] at h; cases h)
  have hrun0 := k306 _ (retOut X286 hx Bd.returns (t := (.object "com/example/tokenward/tokenward/ApiException")) rfl (Or.inr (Or.inr (Or.inr (Or.inr ⟨rfl, rfl, rfl⟩)))) (hb hby d_prog_1_method_2_code_11) hr)
  subst hE0
  refine ⟨_, _, hrun0, hrun, hended, _, _, rfl, ?_, ⟨_, rfl⟩, hW, hsame.mono (by decide) (by decide)⟩
  show QrmB Z mv uS sS h0 n0 _ T282.heap _
  exact ⟨a266, rfl, N301, K305, F304, g297, g298, g299, g300, nw269⟩
def QrmS (Z : State) (a : Addr) (h0 : Heap) (n0 : Nat) (vQ : Option Value) (hQ : Heap) (LQ : List Loc) : Prop := vQ = some (.int (400 : Int32)) ∧ Fr n0 LQ ∧ hQ = h0
theorem ef_rmS (m : MethodId) (a : Addr) : entryFrame m #[(.ref a)] 1 = mkF m 0 #[vr a] [] := by first | (simp [entryFrame, mkF, argsToLocals, Value.category]; done) | rfl
abbrev mn13 : MethodName := ⟨"com/example/tokenward/tokenward/ApiException", "status", "()I"⟩
theorem d_prog_1_method_6_code_0 : decode prog_1_method_6_code 0 = .ok (.aload_n 0, 1) := by decide +kernel
theorem d_prog_1_method_6_code_1 : decode prog_1_method_6_code 1 = .ok (.getfield 7, 3) := by decide +kernel
theorem d_prog_1_method_6_code_4 : decode prog_1_method_6_code 4 = .ok (.ireturn, 1) := by decide +kernel
set_option maxRecDepth 65536 in
set_option maxHeartbeats 40000000 in
theorem rmS (l : Launch) (Z : State) (a0 : Array Value) (hw : ∀ d ∈ tables_1, d.before a0 Z = true) (ws : List Jvm.Cond) (a : Addr) (h0 : Heap) (n0 : Nat) (Z0 : n0 ≤ h0.size) (F1 : fd2 Z h0 a (.int (400 : Int32))) :
    MetFree l mn13 (head1 (Jvm.Cond.code mn13 prog_1_method_6_code 1 (some .int) :: ws) ({ frames := 0, cells := 0, slots := 0, locals := 0 } : Room)) (fun aA U => aA = #[(.ref a)] ∧ Z.Warmed39 U.vm ∧ U.heap = h0) (fun _ _ _ _ _ => True) (fun _ U o U' => ∃ vR LR, o = .returned vR ∧ QrmS Z a h0 n0 vR U'.heap LR ∧ FrameEnd U o U' LR ({ frames := 0, cells := 0, slots := 0, locals := 0 } : Room).cells ({ frames := 0, cells := 0, slots := 0, locals := 0 } : Room).slots) := by
  refine MetFree.of_bodySF (plainFor_of_name pn_com_example_tokenward_tokenward_ApiException) hisR ?_
  intro p e s m args below meth c s₁ Bd hml0 hPre hKk
  obtain ⟨rfl, hZ, hh⟩ := hPre
  have hx := Bd.exec
  have hby := Bd.bytes
  skip
  have hml : c.maxLocals = 1 := hml0
  have hown : s.vm.findClass "com/example/tokenward/tokenward/ApiException" = some m.cls := findClass_of_methodNamed Bd.named
  have hnm := (name_of_methodNamed Bd.named Bd.method).1
  have X0 : Stand p l e ({ frames := 0, cells := 0, slots := 0, locals := 0 } : Room) s m #[(.ref a)] below meth c s₁ [] 0 0 := Stand.of_body Bd
  have e0 : s₁.heap = h0 := by rw [← hh, Bd.state]; rfl
  have N0 := Fr.nil n0
  obtain ⟨E0, hE0⟩ : ∃ zE : State, zE = s₁.setTop (entryFrame m #[(.ref a)] 1) := ⟨_, rfl⟩
  have k0 : own_G p e below E0 s₁ (mkF m 0 #[vr a] []) := fun tz kz => hE0 ▸ castTop (ef_rmS m a) kz
  have k307 : own_G p e below E0 s₁ (mkF m 1 #[vr a] [(.ref a)]) := by
    intro tQ kk
    refine k0 tQ ?_
    refine XS.aloadN X0.here hx rfl (hb hby d_prog_1_method_6_code_0) rfl rfl ?_
    exact kk
  clear k0
  obtain ⟨T308, X309, e310, st311⟩ := getF X0 hx hZ hown (host := "") (Or.inl (tw63 hw)) Via.refl e0 F1 (g := (mkF m 1 #[vr a] [(.ref a)])) rfl rfl (hb hby d_prog_1_method_6_code_1)
  have k312 : own_G p e below E0 T308 (mkF m 4 #[vr a] [(.int (400 : Int32))]) := fun tQ kk => k307 tQ (st311 _ kk)
  clear k307 st311
  obtain ⟨fs, hr, hrun, hended, hW, hsame⟩ := X309.leave (v := some (.int (400 : Int32))) (fun h => by rw [Bd.returns] at h; cases h)
  have hrun0 := k312 _ (retOut X309 hx Bd.returns (t := .int) rfl (Or.inl ⟨rfl, Or.inl rfl, _, rfl⟩) (hb hby d_prog_1_method_6_code_4) hr)
  subst hE0
  refine ⟨_, _, hrun0, hrun, hended, _, _, rfl, ?_, ⟨_, rfl⟩, hW, hsame.mono (by decide) (by decide)⟩
  show QrmS Z a h0 n0 _ T308.heap _
  rw [e310]
  exact ⟨rfl, N0, rfl⟩
def QrmG (Z : State) (a : Addr) (mv : Value) (h0 : Heap) (n0 : Nat) (vQ : Option Value) (hQ : Heap) (LQ : List Loc) : Prop := vQ = some mv ∧ Fr n0 LQ ∧ hQ = h0
theorem ef_rmG (m : MethodId) (a : Addr) (mv : Value) : entryFrame m #[(.ref a)] 1 = mkF m 0 #[vr a] [] := by first | (simp [entryFrame, mkF, argsToLocals, Value.category]; done) | rfl
abbrev mn14 : MethodName := ⟨"java/lang/Throwable", "getMessage", "()Ljava/lang/String;"⟩
theorem d_jdk_78_method_6_code_0 : decode jdk_78_method_6_code 0 = .ok (.aload_n 0, 1) := by decide +kernel
theorem d_jdk_78_method_6_code_1 : decode jdk_78_method_6_code 1 = .ok (.getfield 31, 3) := by decide +kernel
theorem d_jdk_78_method_6_code_4 : decode jdk_78_method_6_code 4 = .ok (.areturn, 1) := by decide +kernel
set_option maxRecDepth 65536 in
set_option maxHeartbeats 40000000 in
theorem rmG (l : Launch) (Z : State) (a0 : Array Value) (hw : ∀ d ∈ tables_1, d.before a0 Z = true) (ws : List Jvm.Cond) (a : Addr) (mv : Value) (h0 : Heap) (n0 : Nat) (Z0 : n0 ≤ h0.size) (F1 : fd1 Z h0 a mv) (hm : mv.isRef = true) :
    MetFree l mn14 (head1 (Jvm.Cond.code mn14 jdk_78_method_6_code 1 (some (.object "java/lang/String")) :: ws) ({ frames := 0, cells := 0, slots := 0, locals := 0 } : Room)) (fun aA U => aA = #[(.ref a)] ∧ Z.Warmed39 U.vm ∧ U.heap = h0) (fun _ _ _ _ _ => True) (fun _ U o U' => ∃ vR LR, o = .returned vR ∧ QrmG Z a mv h0 n0 vR U'.heap LR ∧ FrameEnd U o U' LR ({ frames := 0, cells := 0, slots := 0, locals := 0 } : Room).cells ({ frames := 0, cells := 0, slots := 0, locals := 0 } : Room).slots) := by
  refine MetFree.of_bodySF (plainFor_of_name pn_java_lang_Throwable) hisR ?_
  intro p e s m args below meth c s₁ Bd hml0 hPre hKk
  obtain ⟨rfl, hZ, hh⟩ := hPre
  have hx := Bd.exec
  have hby := Bd.bytes
  skip
  have hml : c.maxLocals = 1 := hml0
  have hown : s.vm.findClass "java/lang/Throwable" = some m.cls := findClass_of_methodNamed Bd.named
  have hnm := (name_of_methodNamed Bd.named Bd.method).1
  have X0 : Stand p l e ({ frames := 0, cells := 0, slots := 0, locals := 0 } : Room) s m #[(.ref a)] below meth c s₁ [] 0 0 := Stand.of_body Bd
  have e0 : s₁.heap = h0 := by rw [← hh, Bd.state]; rfl
  have N0 := Fr.nil n0
  obtain ⟨E0, hE0⟩ : ∃ zE : State, zE = s₁.setTop (entryFrame m #[(.ref a)] 1) := ⟨_, rfl⟩
  have k0 : own_G p e below E0 s₁ (mkF m 0 #[vr a] []) := fun tz kz => hE0 ▸ castTop (ef_rmG m a mv) kz
  have k313 : own_G p e below E0 s₁ (mkF m 1 #[vr a] [(.ref a)]) := by
    intro tQ kk
    refine k0 tQ ?_
    refine XS.aloadN X0.here hx rfl (hb hby d_jdk_78_method_6_code_0) rfl rfl ?_
    exact kk
  clear k0
  obtain ⟨T314, X315, e316, st317⟩ := getF X0 hx hZ hown (host := "") (Or.inl (tw61 hw)) Via.refl e0 F1 (g := (mkF m 1 #[vr a] [(.ref a)])) rfl rfl (hb hby d_jdk_78_method_6_code_1)
  have k318 : own_G p e below E0 T314 (mkF m 4 #[vr a] [mv]) := fun tQ kk => k313 tQ (st317 _ kk)
  clear k313 st317
  obtain ⟨fs, hr, hrun, hended, hW, hsame⟩ := X315.leave (v := some mv) (fun h => by rw [Bd.returns] at h; cases h)
  have hrun0 := k318 _ (retOut X315 hx Bd.returns (t := (.object "java/lang/String")) (own_narR hm _).1 (Or.inr (Or.inr (Or.inr (Or.inr ⟨rfl, rfl, hm⟩)))) (hb hby d_jdk_78_method_6_code_4) hr)
  subst hE0
  refine ⟨_, _, hrun0, hrun, hended, _, _, rfl, ?_, ⟨_, rfl⟩, hW, hsame.mono (by decide) (by decide)⟩
  show QrmG Z a mv h0 n0 _ T314.heap _
  rw [e316]
  exact ⟨rfl, N0, rfl⟩
def QrmS2 (Z : State) (a : Addr) (b : Addr) (h0 : Heap) (n0 : Nat) (vQ : Option Value) (hQ : Heap) (LQ : List Loc) : Prop := vQ = none ∧ Fr n0 LQ ∧ Keep h0 hQ [a]
theorem ef_rmS2 (m : MethodId) (a : Addr) (b : Addr) : entryFrame m #[(.ref a), (.ref b), (.int (0 : Int32)), (.int (0 : Int32)), .null] 6 = mkF m 0 #[vr a, vr b, vi (0 : Int32), vi (0 : Int32), .val .null, uu] [] := by first | (simp [entryFrame, mkF, argsToLocals, Value.category]; done) | rfl
abbrev xa15 (Z : State) (h : Heap) (a : Addr) : Prop := Exa Z h a "java/lang/String"
abbrev fd16 (Z : State) (h : Heap) (a : Addr) (v : Value) : Prop := Fld Z h a "java/lang/String" "value" "[B" v
abbrev fd17 (Z : State) (h : Heap) (a : Addr) (v : Value) : Prop := Fld Z h a "java/lang/String" "coder" "B" v
abbrev mn18 : MethodName := ⟨"java/lang/String", "<init>", "([CIILjava/lang/Void;)V"⟩
theorem pn_java_lang_String : plainName "java/lang/String" = true := by first | (simp [plainName, overriddenIn]; done) | decide +kernel
abbrev GrmS2 (Z : State) (a : Addr) (b : Addr) (h0 : Heap) (vm : Vm) : Prop := CHv Z consts_1 vm h0 ∧ Safe Z consts_1 vm h0 a
theorem d_jdk_42_method_149_code_0 : decode jdk_42_method_149_code 0 = .ok (.aload_n 0, 1) := by decide +kernel
theorem d_jdk_42_method_149_code_1 : decode jdk_42_method_149_code 1 = .ok (.invokespecial 1, 3) := by decide +kernel
def tw15 {Z : State} {a0 : Array Value} (hw : ∀ d ∈ tables_1, d.before a0 Z = true) := hw _ (List.mem_of_getElem? (i := 15) rfl)
theorem d_jdk_42_method_149_code_4 : decode jdk_42_method_149_code 4 = .ok (.iload_n 3, 1) := by decide +kernel
theorem d_jdk_42_method_149_code_5 : decode jdk_42_method_149_code 5 = .ok (.ifCond .ne 22, 3) := by decide +kernel
theorem d_jdk_42_method_149_code_8 : decode jdk_42_method_149_code 8 = .ok (.aload_n 0, 1) := by decide +kernel
theorem d_jdk_42_method_149_code_9 : decode jdk_42_method_149_code 9 = .ok (.ldc 7, 2) := by decide +kernel
def tw18 {Z : State} {a0 : Array Value} (hw : ∀ d ∈ tables_1, d.before a0 Z = true) := hw _ (List.mem_of_getElem? (i := 18) rfl)
theorem own_sA {Z : State} {a0 : Array Value} (hw : ∀ d ∈ tables_1, d.before a0 Z = true) : ∀ d ∈ Bundle.stringAtoms, d.before a0 Z = true := fun d hd => hw d ((by decide +kernel : ∀ d ∈ Bundle.stringAtoms, d ∈ tables_1) d hd)
theorem d_jdk_42_method_149_code_11 : decode jdk_42_method_149_code 11 = .ok (.getfield 9, 3) := by decide +kernel
def tw24 {Z : State} {a0 : Array Value} (hw : ∀ d ∈ tables_1, d.before a0 Z = true) := hw _ (List.mem_of_getElem? (i := 24) rfl)
theorem d_jdk_42_method_149_code_14 : decode jdk_42_method_149_code 14 = .ok (.putfield 9, 3) := by decide +kernel
def tw5 {Z : State} {a0 : Array Value} (hw : ∀ d ∈ tables_1, d.before a0 Z = true) := hw _ (List.mem_of_getElem? (i := 5) rfl)
def tw20 {Z : State} {a0 : Array Value} (hw : ∀ d ∈ tables_1, d.before a0 Z = true) := hw _ (List.mem_of_getElem? (i := 20) rfl)
def tw21 {Z : State} {a0 : Array Value} (hw : ∀ d ∈ tables_1, d.before a0 Z = true) := hw _ (List.mem_of_getElem? (i := 21) rfl)
theorem d_jdk_42_method_149_code_17 : decode jdk_42_method_149_code 17 = .ok (.aload_n 0, 1) := by decide +kernel
theorem d_jdk_42_method_149_code_18 : decode jdk_42_method_149_code 18 = .ok (.ldc 7, 2) := by decide +kernel
theorem d_jdk_42_method_149_code_20 : decode jdk_42_method_149_code 20 = .ok (.getfield 15, 3) := by decide +kernel
def tw25 {Z : State} {a0 : Array Value} (hw : ∀ d ∈ tables_1, d.before a0 Z = true) := hw _ (List.mem_of_getElem? (i := 25) rfl)
theorem d_jdk_42_method_149_code_23 : decode jdk_42_method_149_code 23 = .ok (.putfield 15, 3) := by decide +kernel
theorem d_jdk_42_method_149_code_26 : decode jdk_42_method_149_code 26 = .ok (.return_, 1) := by decide +kernel
set_option maxRecDepth 65536 in
set_option maxHeartbeats 40000000 in
theorem rmS2 (l : Launch) (Z : State) (a0 : Array Value) (hw : ∀ d ∈ tables_1, d.before a0 Z = true) (ws : List Jvm.Cond) (a : Addr) (b : Addr) (h0 : Heap) (n0 : Nat) (Z0 : n0 ≤ h0.size) (E1 : xa15 Z h0 a) (F1 : fd16 Z h0 a .null) (F2 : fd17 Z h0 a (.int (0 : Int32))) (ge_a : n0 ≤ a) :
    MetFree l mn18 (head1 (Jvm.Cond.code mn18 jdk_42_method_149_code 6 none :: ws) ({ frames := 1, cells := 4, slots := 8, locals := 12 } : Room)) (fun aA U => aA = #[(.ref a), (.ref b), (.int (0 : Int32)), (.int (0 : Int32)), .null] ∧ Z.Warmed39 U.vm ∧ U.heap = h0 ∧ GrmS2 Z a b h0 U.vm) (fun _ _ _ _ _ => True) (fun _ U o U' => ∃ vR LR, o = .returned vR ∧ QrmS2 Z a b h0 n0 vR U'.heap LR ∧ ReturnedEndW U o U' LR ({ frames := 1, cells := 4, slots := 8, locals := 12 } : Room).cells ({ frames := 1, cells := 4, slots := 8, locals := 12 } : Room).slots) := by
  refine MetFree.of_bodySF (plainFor_of_name pn_java_lang_String) hisR ?_
  intro p e s m args below meth c s₁ Bd hml0 hPre hKk
  obtain ⟨rfl, hZ, hh, hCH0, hSf_a⟩ := hPre
  have hx := Bd.exec
  have hby := Bd.bytes
  skip
  have hml : c.maxLocals = 6 := hml0
  have hown : s.vm.findClass "java/lang/String" = some m.cls := findClass_of_methodNamed Bd.named
  have hnm := (name_of_methodNamed Bd.named Bd.method).1
  have X0 : Stand p l e ({ frames := 1, cells := 4, slots := 8, locals := 12 } : Room) (s.setVm s.vm) m #[(.ref a), (.ref b), (.int (0 : Int32)), (.int (0 : Int32)), .null] below meth c s₁ [] 0 0 := Stand.of_body Bd
  have e0 : s₁.heap = h0 := by rw [← hh, Bd.state]; rfl
  have N0 := Fr.nil n0
  obtain ⟨E0, hE0⟩ : ∃ zE : State, zE = s₁.setTop (entryFrame m #[(.ref a), (.ref b), (.int (0 : Int32)), (.int (0 : Int32)), .null] 6) := ⟨_, rfl⟩
  have k0 : own_G p e below E0 s₁ (mkF m 0 #[vr a, vr b, vi (0 : Int32), vi (0 : Int32), .val .null, uu] []) := fun tz kz => hE0 ▸ castTop (ef_rmS2 m a b) kz
  have S0 : s.Since s.vm 0 := (State.WarmedH.refl s).since 0
  have LE0 : own_Le 0 h0 := Nat.zero_le _
  have K0 : Keep h0 h0 [a] := Keep.refl _ _
  have k319 : own_G p e below E0 s₁ (mkF m 1 #[vr a, vr b, vi (0 : Int32), vi (0 : Int32), .val .null, uu] [(.ref a)]) := by
    intro tQ kk
    refine k0 tQ ?_
    refine XS.aloadN X0.here hx rfl (hb hby d_jdk_42_method_149_code_0) rfl rfl ?_
    exact kk
  clear k0
  obtain ⟨T320, X321, e322, st323⟩ := initO X0 hx hZ hown (tw15 hw) (tw16 hw) (tw17 hw) e0 (g := (mkF m 1 #[vr a, vr b, vi (0 : Int32), vi (0 : Int32), .val .null, uu] [(.ref a)])) rfl (by rw [hml]; rfl) rfl (hb hby d_jdk_42_method_149_code_1) (by decide) (W := 0) (by show 2 * 0 + _ ≤ _; exact Nat.le_of_eq rfl) (by decide)
  have k324 : own_G p e below E0 T320 (mkF m 4 #[vr a, vr b, vi (0 : Int32), vi (0 : Int32), .val .null, uu] []) := fun tQ kk => k319 tQ (st323 _ kk)
  clear k319 st323
  have k325 : own_G p e below E0 T320 (mkF m 9 #[vr a, vr b, vi (0 : Int32), vi (0 : Int32), .val .null, uu] [(.ref a)]) := by
    intro tQ kk
    refine k324 tQ ?_
    refine XS.iloadN X321.here hx rfl (hb hby d_jdk_42_method_149_code_4) rfl ?_
    refine XS.ifNo X321.here hx rfl (hb hby d_jdk_42_method_149_code_5) rfl (own_if_neN (by decide)) ?_
    refine XS.aloadN X321.here hx rfl (hb hby d_jdk_42_method_149_code_8) rfl rfl ?_
    exact kk
  clear k324
  obtain ⟨a326, T327, h328, ks329, bb336, kb337, X330, e331, E332, S333, Kl334, hZ, hown, E338, F339, F340, -, -, -, CR341, -, NE342, st335⟩ := ldcCH X321 hx hZ hown (tw18 hw) (own_sA hw) e322 S0 LE0 (own_EWt hw) (by decide) hCH0 (vs := []) (z := (0 : Int32)) ⟨by decide, rfl⟩ (by decide) rfl (g := (mkF m 9 #[vr a, vr b, vi (0 : Int32), vi (0 : Int32), .val .null, uu] [(.ref a)])) rfl (hb hby d_jdk_42_method_149_code_9) (n := 0) (by decide) (by decide) (by decide) (by decide)
  have Sf343 := CR341.safe E1.lt hSf_a
  have Z344 : n0 ≤ h328.size := Nat.le_trans Z0 E332.1
  have F345 : xa15 Z h328 a := E1.ext E332
  clear E1
  have F346 : fd16 Z h328 a .null := F1.ext E332
  clear F1
  have F347 : fd17 Z h328 a (.int (0 : Int32)) := F2.ext E332
  clear F2
  have K348 : Keep h0 h328 [a] := K0.ext E332
  have F349 : own_Le ks329 h328 := Kl334
  have k350 : own_G p e below E0 T327 (mkF m 11 #[vr a, vr b, vi (0 : Int32), vi (0 : Int32), .val .null, uu] [(.ref a326), (.ref a)]) := fun tQ kk => k325 tQ (st335 _ kk)
  clear k325 st335
  obtain ⟨T351, X352, e353, st354⟩ := getF X330 hx hZ hown (host := "") (Or.inl (tw24 hw)) Via.refl e331 F340 (g := (mkF m 11 #[vr a, vr b, vi (0 : Int32), vi (0 : Int32), .val .null, uu] [(.ref a326), (.ref a)])) rfl rfl (hb hby d_jdk_42_method_149_code_11)
  have k355 : own_G p e below E0 T351 (mkF m 14 #[vr a, vr b, vi (0 : Int32), vi (0 : Int32), .val .null, uu] [(.ref bb336), (.ref a)]) := fun tQ kk => k350 tQ (st354 _ kk)
  clear k350 st354
  obtain ⟨T356, h357, X358, e359, W360, st361⟩ := putF X352 hx hZ hown (host := "") (Or.inl (tw24 hw)) Via.refl e353 F346 F345 (Or.inr ⟨(tw20 hw), rfl, hnm⟩) (tw5 hw) (ty := (.array .byte)) (by decide) rfl rfl (g := (mkF m 14 #[vr a, vr b, vi (0 : Int32), vi (0 : Int32), .val .null, uu] [(.ref bb336), (.ref a)])) rfl rfl (hb hby d_jdk_42_method_149_code_14)
  have N362 := Fr.snoc X358 N0 ge_a
  have k363 : own_G p e below E0 T356 (mkF m 17 #[vr a, vr b, vi (0 : Int32), vi (0 : Int32), .val .null, uu] []) := fun tQ kk => k355 tQ (st361 _ kk)
  clear k355 st361
  have Sf364 := Safe.wr W360 Sf343 CR341.1 Sf343
  have CH365 := CHv.wr W360 Sf343 CR341.1
  have F366 : xa15 Z h357 a := F345.wr W360
  clear F345
  have F367 : fd16 Z h357 a (.ref bb336) := F346.same W360
  clear F346
  have F368 : fd17 Z h357 a (.int (0 : Int32)) := F347.other W360 (Or.inr (slot_ne (C := "java/lang/String") (Or.inr (tw21 hw)) (Or.inr (tw20 hw)) (by decide) (t := .byte) (t' := (.array .byte)) (by decide) (by decide)))
  clear F347
  have F369 : xa15 Z h357 a326 := E338.wr W360
  clear E338
  have F370 : fd17 Z h357 a326 (.int (0 : Int32)) := F339.other W360 (Or.inl (Ne.symm (NE342 _ Sf343).1))
  clear F339
  have F371 : fd16 Z h357 a326 (.ref bb336) := F340.other W360 (Or.inl (Ne.symm (NE342 _ Sf343).1))
  clear F340
  have F372 : own_Le ks329 h357 := F349.wr W360
  clear F349
  have Z373 : n0 ≤ h357.size := by rw [W360.size]; exact Z344
  clear Z344
  have K374 : Keep h0 h357 [a] := K348.wr W360 (Or.inl (List.mem_of_getElem? (i := 0) rfl))
  clear K348
  have k375 : own_G p e below E0 T356 (mkF m 18 #[vr a, vr b, vi (0 : Int32), vi (0 : Int32), .val .null, uu] [(.ref a)]) := by
    intro tQ kk
    refine k363 tQ ?_
    refine XS.aloadN X358.here hx rfl (hb hby d_jdk_42_method_149_code_17) rfl rfl ?_
    exact kk
  clear k363
  obtain ⟨a376, T377, h378, ks379, bb386, kb387, X380, e381, E382, S383, Kl384, hZ, hown, E388, F389, F390, -, -, -, CR391, -, NE392, st385⟩ := ldcCH X358 hx hZ hown (tw18 hw) (own_sA hw) e359 S333 F372 (own_EWt hw) (by decide) CH365 (vs := []) (z := (0 : Int32)) ⟨by decide, rfl⟩ (by decide) rfl (g := (mkF m 18 #[vr a, vr b, vi (0 : Int32), vi (0 : Int32), .val .null, uu] [(.ref a)])) rfl (hb hby d_jdk_42_method_149_code_18) (n := 0) (by decide) (by decide) (by decide) (by decide)
  have Sf393 := CR391.safe F366.lt Sf364
  have Z394 : n0 ≤ h378.size := Nat.le_trans Z373 E382.1
  clear Z373
  have F395 : xa15 Z h378 a := F366.ext E382
  clear F366
  have F396 : fd16 Z h378 a (.ref bb336) := F367.ext E382
  clear F367
  have F397 : fd17 Z h378 a (.int (0 : Int32)) := F368.ext E382
  clear F368
  have F398 : xa15 Z h378 a326 := F369.ext E382
  clear F369
  have F399 : fd17 Z h378 a326 (.int (0 : Int32)) := F370.ext E382
  clear F370
  have F400 : fd16 Z h378 a326 (.ref bb336) := F371.ext E382
  clear F371
  have K401 : Keep h0 h378 [a] := K374.ext E382
  clear K374
  have F402 : own_Le ks379 h378 := Kl384
  have k403 : own_G p e below E0 T377 (mkF m 20 #[vr a, vr b, vi (0 : Int32), vi (0 : Int32), .val .null, uu] [(.ref a376), (.ref a)]) := fun tQ kk => k375 tQ (st385 _ kk)
  clear k375 st385
  obtain ⟨T404, X405, e406, st407⟩ := getF X380 hx hZ hown (host := "") (Or.inl (tw25 hw)) Via.refl e381 F389 (g := (mkF m 20 #[vr a, vr b, vi (0 : Int32), vi (0 : Int32), .val .null, uu] [(.ref a376), (.ref a)])) rfl rfl (hb hby d_jdk_42_method_149_code_20)
  have k408 : own_G p e below E0 T404 (mkF m 23 #[vr a, vr b, vi (0 : Int32), vi (0 : Int32), .val .null, uu] [(.int (0 : Int32)), (.ref a)]) := fun tQ kk => k403 tQ (st407 _ kk)
  clear k403 st407
  obtain ⟨T409, h410, X411, e412, W413, st414⟩ := putF X405 hx hZ hown (host := "") (Or.inl (tw25 hw)) Via.refl e406 F397 F395 (Or.inr ⟨(tw21 hw), rfl, hnm⟩) (tw5 hw) (ty := .byte) (by decide) rfl rfl (g := (mkF m 23 #[vr a, vr b, vi (0 : Int32), vi (0 : Int32), .val .null, uu] [(.int (0 : Int32)), (.ref a)])) rfl rfl (hb hby d_jdk_42_method_149_code_23)
  have N415 := Fr.snoc X411 N362 ge_a
  have k416 : own_G p e below E0 T409 (mkF m 26 #[vr a, vr b, vi (0 : Int32), vi (0 : Int32), .val .null, uu] []) := fun tQ kk => k408 tQ (st414 _ kk)
  clear k408 st414
  have Sf417 := Safe.wr W413 Sf393 CR391.1 Sf393
  have CH418 := CHv.wr W413 Sf393 CR391.1
  have F419 : xa15 Z h410 a := F395.wr W413
  clear F395
  have F420 : fd16 Z h410 a (.ref bb336) := F396.other W413 (Or.inr (slot_ne (C := "java/lang/String") (Or.inr (tw20 hw)) (Or.inr (tw21 hw)) (by decide) (t := (.array .byte)) (t' := .byte) (by decide) (by decide)))
  clear F396
  have F421 : fd17 Z h410 a (.int (0 : Int32)) := F397.same W413
  clear F397
  have F422 : xa15 Z h410 a326 := F398.wr W413
  clear F398
  have F423 : fd17 Z h410 a326 (.int (0 : Int32)) := F399.other W413 (Or.inl (Ne.symm (NE342 _ Sf343).1))
  clear F399
  have F424 : fd16 Z h410 a326 (.ref bb336) := F400.other W413 (Or.inl (Ne.symm (NE342 _ Sf343).1))
  clear F400
  have F425 : xa15 Z h410 a376 := E388.wr W413
  clear E388
  have F426 : fd17 Z h410 a376 (.int (0 : Int32)) := F389.other W413 (Or.inl (Ne.symm (NE392 _ Sf393).1))
  clear F389
  have F427 : fd16 Z h410 a376 (.ref bb386) := F390.other W413 (Or.inl (Ne.symm (NE392 _ Sf393).1))
  clear F390
  have F428 : own_Le ks379 h410 := F402.wr W413
  clear F402
  have Z429 : n0 ≤ h410.size := by rw [W413.size]; exact Z394
  clear Z394
  have K430 : Keep h0 h410 [a] := K401.wr W413 (Or.inl (List.mem_of_getElem? (i := 0) rfl))
  clear K401
  obtain ⟨fs, hr, hrun, hended, hRW⟩ := X411.leaveW S383 (Nat.le_trans F428 (Nat.le_of_eq (congrArg Array.size e412.symm))) (v := none) (fun h => rfl)
  have hrun0 := k416 _ (X411.returnOut hx Bd.returns (hb hby d_jdk_42_method_149_code_26) hr)
  subst hE0
  refine ⟨_, _, hrun0, hrun, hended, _, _, rfl, ?_, ⟨_, rfl⟩, hRW.2.1, hRW.2.2.1, hRW.2.2.2.mono (by decide) (by decide)⟩
  show QrmS2 Z a b h0 n0 _ T409.heap _
  rw [e412]
  exact ⟨rfl, N415, K430⟩
def QrmS1 (Z : State) (a : Addr) (b : Addr) (h0 : Heap) (n0 : Nat) (vQ : Option Value) (hQ : Heap) (LQ : List Loc) : Prop := vQ = none ∧ Fr n0 LQ ∧ Keep h0 hQ [a]
theorem ef_rmS1 (m : MethodId) (a : Addr) (b : Addr) : entryFrame m #[(.ref a), (.ref b)] 2 = mkF m 0 #[vr a, vr b] [] := by first | (simp [entryFrame, mkF, argsToLocals, Value.category]; done) | rfl
abbrev mn19 : MethodName := ⟨"java/lang/String", "<init>", "([C)V"⟩
abbrev GrmS1 (Z : State) (a : Addr) (b : Addr) (h0 : Heap) (vm : Vm) : Prop := CHv Z consts_1 vm h0 ∧ Safe Z consts_1 vm h0 a
theorem d_jdk_42_method_3_code_0 : decode jdk_42_method_3_code 0 = .ok (.aload_n 0, 1) := by decide +kernel
theorem d_jdk_42_method_3_code_1 : decode jdk_42_method_3_code 1 = .ok (.aload_n 1, 1) := by decide +kernel
theorem d_jdk_42_method_3_code_2 : decode jdk_42_method_3_code 2 = .ok (.iconst 0, 1) := by decide +kernel
theorem d_jdk_42_method_3_code_3 : decode jdk_42_method_3_code 3 = .ok (.aload_n 1, 1) := by decide +kernel
theorem d_jdk_42_method_3_code_4 : decode jdk_42_method_3_code 4 = .ok (.arraylength, 1) := by decide +kernel
theorem d_jdk_42_method_3_code_5 : decode jdk_42_method_3_code 5 = .ok (.aconst_null, 1) := by decide +kernel
theorem d_jdk_42_method_3_code_6 : decode jdk_42_method_3_code 6 = .ok (.invokespecial 27, 3) := by decide +kernel
def tw11 {Z : State} {a0 : Array Value} (hw : ∀ d ∈ tables_1, d.before a0 Z = true) := hw _ (List.mem_of_getElem? (i := 11) rfl)
def tw14 {Z : State} {a0 : Array Value} (hw : ∀ d ∈ tables_1, d.before a0 Z = true) := hw _ (List.mem_of_getElem? (i := 14) rfl)
def tw6 {Z : State} {a0 : Array Value} (hw : ∀ d ∈ tables_1, d.before a0 Z = true) := hw _ (List.mem_of_getElem? (i := 6) rfl)
theorem pd_20 : parseMethodDescriptor "([CIILjava/lang/Void;)V" = some ⟨[(.array .char), .int, .int, (.object "java/lang/Void")], none⟩ := by decide +kernel
def tw12 {Z : State} {a0 : Array Value} (hw : ∀ d ∈ tables_1, d.before a0 Z = true) := hw _ (List.mem_of_getElem? (i := 12) rfl)
theorem d_jdk_42_method_3_code_9 : decode jdk_42_method_3_code 9 = .ok (.return_, 1) := by decide +kernel
set_option maxRecDepth 65536 in
set_option maxHeartbeats 40000000 in
theorem rmS1 (l : Launch) (Z : State) (a0 : Array Value) (hw : ∀ d ∈ tables_1, d.before a0 Z = true) (ws : List Jvm.Cond) (a : Addr) (b : Addr) (h0 : Heap) (n0 : Nat) (Z0 : n0 ≤ h0.size) (E1 : xa15 Z h0 a) (F1 : fd16 Z h0 a .null) (F2 : fd17 Z h0 a (.int (0 : Int32))) (A1 : own_A Z h0 b .char []) (nab : a ≠ b) (ge_a : n0 ≤ a) :
    MetFree l mn19 (head1 (Jvm.Cond.code mn19 jdk_42_method_3_code 2 none :: ws) ({ frames := 2, cells := 4, slots := 8, locals := 30 } : Room)) (fun aA U => aA = #[(.ref a), (.ref b)] ∧ Z.Warmed39 U.vm ∧ U.heap = h0 ∧ GrmS1 Z a b h0 U.vm) (fun _ _ _ _ _ => True) (fun _ U o U' => ∃ vR LR, o = .returned vR ∧ QrmS1 Z a b h0 n0 vR U'.heap LR ∧ ReturnedEndW U o U' LR ({ frames := 2, cells := 4, slots := 8, locals := 30 } : Room).cells ({ frames := 2, cells := 4, slots := 8, locals := 30 } : Room).slots) := by
  refine MetFree.of_bodySF (plainFor_of_name pn_java_lang_String) hisR ?_
  intro p e s m args below meth c s₁ Bd hml0 hPre hKk
  obtain ⟨rfl, hZ, hh, hCH0, hSf_a⟩ := hPre
  have hx := Bd.exec
  have hby := Bd.bytes
  skip
  have hml : c.maxLocals = 2 := hml0
  have hown : s.vm.findClass "java/lang/String" = some m.cls := findClass_of_methodNamed Bd.named
  have hnm := (name_of_methodNamed Bd.named Bd.method).1
  have X0 : Stand p l e ({ frames := 2, cells := 4, slots := 8, locals := 30 } : Room) (s.setVm s.vm) m #[(.ref a), (.ref b)] below meth c s₁ [] 0 0 := Stand.of_body Bd
  have e0 : s₁.heap = h0 := by rw [← hh, Bd.state]; rfl
  have N0 := Fr.nil n0
  obtain ⟨E0, hE0⟩ : ∃ zE : State, zE = s₁.setTop (entryFrame m #[(.ref a), (.ref b)] 2) := ⟨_, rfl⟩
  have k0 : own_G p e below E0 s₁ (mkF m 0 #[vr a, vr b] []) := fun tz kz => hE0 ▸ castTop (ef_rmS1 m a b) kz
  have S0 : s.Since s.vm 0 := (State.WarmedH.refl s).since 0
  have LE0 : own_Le 0 h0 := Nat.zero_le _
  have K0 : Keep h0 h0 [a] := Keep.refl _ _
  have k431 : own_G p e below E0 s₁ (mkF m 4 #[vr a, vr b] [(.ref b), (.int (0 : Int32)), (.ref b), (.ref a)]) := by
    intro tQ kk
    refine k0 tQ ?_
    refine XS.aloadN X0.here hx rfl (hb hby d_jdk_42_method_3_code_0) rfl rfl ?_
    refine XS.aloadN X0.here hx rfl (hb hby d_jdk_42_method_3_code_1) rfl rfl ?_
    refine XS.iconst X0.here hx rfl (hb hby d_jdk_42_method_3_code_2) ?_
    refine XS.aloadN X0.here hx rfl (hb hby d_jdk_42_method_3_code_3) rfl rfl ?_
    exact kk
  clear k0
  have st432 := fun tQ => own_A.len X0 hx hZ e0 A1 (g := (mkF m 4 #[vr a, vr b] [(.ref b), (.int (0 : Int32)), (.ref b), (.ref a)])) rfl rfl (hb hby d_jdk_42_method_3_code_4) tQ
  have k433 : own_G p e below E0 s₁ (mkF m 5 #[vr a, vr b] [(.int (0 : Int32)), (.int (0 : Int32)), (.ref b), (.ref a)]) := fun tQ kk => k431 tQ (st432 _ kk)
  clear k431 st432
  have k434 : own_G p e below E0 s₁ (mkF m 6 #[vr a, vr b] [.null, (.int (0 : Int32)), (.int (0 : Int32)), (.ref b), (.ref a)]) := by
    intro tQ kk
    refine k433 tQ ?_
    refine XS.aconstNull X0.here hx rfl (hb hby d_jdk_42_method_3_code_5) ?_
    exact kk
  clear k433
  obtain ⟨_, _, ⟨T435, L436, kc437, nc438⟩, -, X439, S446, G447, ⟨Lc440, hQ441, l442, y443, z444⟩, st445⟩ := X0.specialBackS hx (y := mn18) rfl hown (mvT hZ (tw11 hw)) (mvT hZ (tw12 hw)) (mvT hZ (tw14 hw)) (by decide) (own_backG (G := GrmS2 Z a b h0) (W := 0) (rmS2 l Z a0 hw [] a b h0 n0 Z0 E1 F1 F2 ge_a) hZ (tw14 hw) (tw6 hw) (by decide) (by decide) (fun vm1 A => ⟨A.1, A.safe E1.lt hSf_a⟩) (own_EWt hw) hCH0) (g := (mkF m 6 #[vr a, vr b] [.null, (.int (0 : Int32)), (.int (0 : Int32)), (.ref b), (.ref a)])) rfl (by rw [hml]; rfl) (Steps.refl _) (a := a) (argsL := [(.ref b), (.int (0 : Int32)), (.int (0 : Int32)), .null]) (rest := []) (lenOf pd_20 rfl) rfl (by show 2 * 0 + _ ≤ _; exact Nat.le_of_eq rfl) (hb hby d_jdk_42_method_3_code_6) (fun _ _ => ⟨rfl, e0, (by decide : 0 + 4 ≤ _), (by decide : 0 + 8 ≤ _)⟩)
  dsimp only [Pt.U, Pt.locs, Pt.cells, Pt.slots] at X439 l442 y443 z444 st445 hQ441 S446 G447
  subst y443 z444
  obtain ⟨X448, S449, hZ, hown⟩ := rebS S0 (Nat.le_trans LE0 (Nat.le_of_eq (congrArg Array.size e0.symm))) X439 S446 G447 hZ hown
  clear X439 S446 G447
  obtain ⟨rfl, N450, K453⟩ := hQ441
  have N454 : Fr n0 L436 := by rw [l442]; exact Fr.app N0 N450
  clear l442 N450
  have Z455 : n0 ≤ T435.heap.size := Nat.le_trans Z0 K453.1
  have F456 : xa15 Z T435.heap a := E1.keep K453
  clear E1
  clear F1
  clear F2
  have F457 : own_A Z T435.heap b .char [] := A1.keep K453 (ninS (fun q => nab q.symm) nin0)
  clear A1
  have K458 : Keep h0 T435.heap [a] := K0.trans K453 (allS (Or.inl (List.mem_of_getElem? (i := 0) rfl)) all0)
  have F459 : own_Le T435.heap.size T435.heap := Nat.le_refl _
  have k460 : own_G p e below E0 T435 (mkF m 9 #[vr a, vr b] []) := fun tQ kk => k434 tQ (st445.trans kk)
  clear k434 st445
  obtain ⟨fs, hr, hrun, hended, hRW⟩ := X448.leaveW S449 F459 (v := none) (fun h => rfl)
  have hrun0 := k460 _ (X448.returnOut hx Bd.returns (hb hby d_jdk_42_method_3_code_9) hr)
  subst hE0
  refine ⟨_, _, hrun0, hrun, hended, _, _, rfl, ?_, ⟨_, rfl⟩, hRW.2.1, hRW.2.2.1, hRW.2.2.2.mono (by decide) (by decide)⟩
  show QrmS1 Z a b h0 n0 _ T435.heap _
  exact ⟨rfl, N454, K458⟩
def QrmD (Z : State) (kq : Int32) (x : Int32) (y : Int32) (z : Int32) (G1 : Int32) (h0 : Heap) (n0 : Nat) (vQ : Option Value) (hQ : Heap) (LQ : List Loc) : Prop := ∃ (r : Addr), vQ = some (.ref r) ∧ Fr n0 LQ ∧ Keep h0 hQ [] ∧ (h0.size ≤ r)
theorem ef_rmD (m : MethodId) (kq : Int32) (x : Int32) (y : Int32) (z : Int32) (G1 : Int32) : entryFrame m #[(.int kq), (.int x), (.int y), (.int z)] 9 = mkF m 0 #[vi kq, vi x, vi y, vi z, uu, uu, uu, uu, uu] [] := by first | (simp [entryFrame, mkF, argsToLocals, Value.category]; done) | rfl
abbrev mn21 : MethodName := ⟨"com/example/tokenward/tokenward/ApiExceptionBadRequestPinLaw", "draw", "(IIII)Ljava/lang/String;"⟩
theorem pn_com_example_tokenward_tokenward_ApiExceptionBadRequestPinLaw : plainName "com/example/tokenward/tokenward/ApiExceptionBadRequestPinLaw" = true := by first | (simp [plainName, overriddenIn]; done) | decide +kernel
abbrev GrmD (Z : State) (kq : Int32) (x : Int32) (y : Int32) (z : Int32) (G1 : Int32) (h0 : Heap) (vm : Vm) : Prop := CHv Z consts_1 vm h0
theorem d_method_2_code_0 : decode method_2_code 0 = .ok (.iload_n 1, 1) := by decide +kernel
theorem d_method_2_code_1 : decode method_2_code 1 = .ok (.sipush 255, 3) := by decide +kernel
theorem d_method_2_code_4 : decode method_2_code 4 = .ok (.iand, 1) := by decide +kernel
theorem d_method_2_code_5 : decode method_2_code 5 = .ok (.i2c, 1) := by decide +kernel
theorem d_method_2_code_6 : decode method_2_code 6 = .ok (.istore 4, 2) := by decide +kernel
theorem d_method_2_code_8 : decode method_2_code 8 = .ok (.iload_n 2, 1) := by decide +kernel
theorem d_method_2_code_9 : decode method_2_code 9 = .ok (.sipush 255, 3) := by decide +kernel
theorem d_method_2_code_12 : decode method_2_code 12 = .ok (.iand, 1) := by decide +kernel
theorem d_method_2_code_13 : decode method_2_code 13 = .ok (.i2c, 1) := by decide +kernel
theorem d_method_2_code_14 : decode method_2_code 14 = .ok (.istore 5, 2) := by decide +kernel
theorem d_method_2_code_16 : decode method_2_code 16 = .ok (.iload_n 3, 1) := by decide +kernel
theorem d_method_2_code_17 : decode method_2_code 17 = .ok (.sipush 255, 3) := by decide +kernel
theorem d_method_2_code_20 : decode method_2_code 20 = .ok (.iand, 1) := by decide +kernel
theorem d_method_2_code_21 : decode method_2_code 21 = .ok (.i2c, 1) := by decide +kernel
theorem d_method_2_code_22 : decode method_2_code 22 = .ok (.istore 6, 2) := by decide +kernel
theorem d_method_2_code_24 : decode method_2_code 24 = .ok (.iload_n 0, 1) := by decide +kernel
theorem d_method_2_code_25 : decode method_2_code 25 = .ok (.iconst 3, 1) := by decide +kernel
theorem d_method_2_code_26 : decode method_2_code 26 = .ok (.iand, 1) := by decide +kernel
theorem d_method_2_code_27 : decode method_2_code 27 = .ok (.istore 7, 2) := by decide +kernel
theorem d_method_2_code_29 : decode method_2_code 29 = .ok (.iload 7, 2) := by decide +kernel
theorem d_method_2_code_31 : decode method_2_code 31 = .ok (.ifCond .ne 14, 3) := by decide +kernel
theorem d_method_2_code_34 : decode method_2_code 34 = .ok (.new 7, 3) := by decide +kernel
def tw4 {Z : State} {a0 : Array Value} (hw : ∀ d ∈ tables_1, d.before a0 Z = true) := hw _ (List.mem_of_getElem? (i := 4) rfl)
theorem d_method_2_code_37 : decode method_2_code 37 = .ok (.dup, 1) := by decide +kernel
theorem d_method_2_code_38 : decode method_2_code 38 = .ok (.iconst 0, 1) := by decide +kernel
theorem d_method_2_code_39 : decode method_2_code 39 = .ok (.newarray .char, 2) := by decide +kernel
def tw7 {Z : State} {a0 : Array Value} (hw : ∀ d ∈ tables_1, d.before a0 Z = true) := hw _ (List.mem_of_getElem? (i := 7) rfl)
theorem d_method_2_code_41 : decode method_2_code 41 = .ok (.invokespecial 9, 3) := by decide +kernel
def tw8 {Z : State} {a0 : Array Value} (hw : ∀ d ∈ tables_1, d.before a0 Z = true) := hw _ (List.mem_of_getElem? (i := 8) rfl)
def tw10 {Z : State} {a0 : Array Value} (hw : ∀ d ∈ tables_1, d.before a0 Z = true) := hw _ (List.mem_of_getElem? (i := 10) rfl)
theorem pd_22 : parseMethodDescriptor "([C)V" = some ⟨[(.array .char)], none⟩ := by decide +kernel
def tw9 {Z : State} {a0 : Array Value} (hw : ∀ d ∈ tables_1, d.before a0 Z = true) := hw _ (List.mem_of_getElem? (i := 9) rfl)
theorem d_method_2_code_44 : decode method_2_code 44 = .ok (.areturn, 1) := by decide +kernel
theorem d_method_2_code_45 : decode method_2_code 45 = .ok (.iload 7, 2) := by decide +kernel
theorem d_method_2_code_47 : decode method_2_code 47 = .ok (.iconst 1, 1) := by decide +kernel
theorem d_method_2_code_48 : decode method_2_code 48 = .ok (.if_icmp .ne 23, 3) := by decide +kernel
theorem d_method_2_code_51 : decode method_2_code 51 = .ok (.iconst 1, 1) := by decide +kernel
theorem d_method_2_code_52 : decode method_2_code 52 = .ok (.newarray .char, 2) := by decide +kernel
theorem d_method_2_code_54 : decode method_2_code 54 = .ok (.dup, 1) := by decide +kernel
theorem d_method_2_code_55 : decode method_2_code 55 = .ok (.iconst 0, 1) := by decide +kernel
theorem d_method_2_code_56 : decode method_2_code 56 = .ok (.iload 4, 2) := by decide +kernel
theorem d_method_2_code_58 : decode method_2_code 58 = .ok (.castore, 1) := by decide +kernel
theorem d_method_2_code_59 : decode method_2_code 59 = .ok (.astore 8, 2) := by decide +kernel
theorem d_method_2_code_61 : decode method_2_code 61 = .ok (.new 7, 3) := by decide +kernel
theorem d_method_2_code_64 : decode method_2_code 64 = .ok (.dup, 1) := by decide +kernel
theorem d_method_2_code_65 : decode method_2_code 65 = .ok (.aload 8, 2) := by decide +kernel
theorem d_method_2_code_67 : decode method_2_code 67 = .ok (.invokespecial 9, 3) := by decide +kernel
theorem own_hws {Z : State} {a0 : Array Value} (hw : ∀ d ∈ tables_1, d.before a0 Z = true) : ∀ d ∈ StrChars.Road.words, d.before a0 Z = true := fun d hd => hw d ((by decide +kernel : ∀ d ∈ StrChars.Road.words, d ∈ tables_1) d hd)
theorem d_method_2_code_70 : decode method_2_code 70 = .ok (.areturn, 1) := by decide +kernel
theorem d_method_2_code_71 : decode method_2_code 71 = .ok (.iload 7, 2) := by decide +kernel
theorem d_method_2_code_73 : decode method_2_code 73 = .ok (.iconst 2, 1) := by decide +kernel
theorem d_method_2_code_74 : decode method_2_code 74 = .ok (.if_icmp .ne 28, 3) := by decide +kernel
theorem d_method_2_code_77 : decode method_2_code 77 = .ok (.iconst 2, 1) := by decide +kernel
theorem d_method_2_code_78 : decode method_2_code 78 = .ok (.newarray .char, 2) := by decide +kernel
theorem d_method_2_code_80 : decode method_2_code 80 = .ok (.dup, 1) := by decide +kernel
theorem d_method_2_code_81 : decode method_2_code 81 = .ok (.iconst 0, 1) := by decide +kernel
theorem d_method_2_code_82 : decode method_2_code 82 = .ok (.iload 4, 2) := by decide +kernel
theorem d_method_2_code_84 : decode method_2_code 84 = .ok (.castore, 1) := by decide +kernel
theorem d_method_2_code_85 : decode method_2_code 85 = .ok (.dup, 1) := by decide +kernel
theorem d_method_2_code_86 : decode method_2_code 86 = .ok (.iconst 1, 1) := by decide +kernel
theorem d_method_2_code_87 : decode method_2_code 87 = .ok (.iload 5, 2) := by decide +kernel
theorem d_method_2_code_89 : decode method_2_code 89 = .ok (.castore, 1) := by decide +kernel
theorem d_method_2_code_90 : decode method_2_code 90 = .ok (.astore 8, 2) := by decide +kernel
theorem d_method_2_code_92 : decode method_2_code 92 = .ok (.new 7, 3) := by decide +kernel
theorem d_method_2_code_95 : decode method_2_code 95 = .ok (.dup, 1) := by decide +kernel
theorem d_method_2_code_96 : decode method_2_code 96 = .ok (.aload 8, 2) := by decide +kernel
theorem d_method_2_code_98 : decode method_2_code 98 = .ok (.invokespecial 9, 3) := by decide +kernel
theorem d_method_2_code_101 : decode method_2_code 101 = .ok (.areturn, 1) := by decide +kernel
theorem d_method_2_code_102 : decode method_2_code 102 = .ok (.iconst 3, 1) := by decide +kernel
theorem d_method_2_code_103 : decode method_2_code 103 = .ok (.newarray .char, 2) := by decide +kernel
theorem d_method_2_code_105 : decode method_2_code 105 = .ok (.dup, 1) := by decide +kernel
theorem d_method_2_code_106 : decode method_2_code 106 = .ok (.iconst 0, 1) := by decide +kernel
theorem d_method_2_code_107 : decode method_2_code 107 = .ok (.iload 4, 2) := by decide +kernel
theorem d_method_2_code_109 : decode method_2_code 109 = .ok (.castore, 1) := by decide +kernel
theorem d_method_2_code_110 : decode method_2_code 110 = .ok (.dup, 1) := by decide +kernel
theorem d_method_2_code_111 : decode method_2_code 111 = .ok (.iconst 1, 1) := by decide +kernel
theorem d_method_2_code_112 : decode method_2_code 112 = .ok (.iload 5, 2) := by decide +kernel
theorem d_method_2_code_114 : decode method_2_code 114 = .ok (.castore, 1) := by decide +kernel
theorem d_method_2_code_115 : decode method_2_code 115 = .ok (.dup, 1) := by decide +kernel
theorem d_method_2_code_116 : decode method_2_code 116 = .ok (.iconst 2, 1) := by decide +kernel
theorem d_method_2_code_117 : decode method_2_code 117 = .ok (.iload 6, 2) := by decide +kernel
theorem d_method_2_code_119 : decode method_2_code 119 = .ok (.castore, 1) := by decide +kernel
theorem d_method_2_code_120 : decode method_2_code 120 = .ok (.astore 8, 2) := by decide +kernel
theorem d_method_2_code_122 : decode method_2_code 122 = .ok (.new 7, 3) := by decide +kernel
theorem d_method_2_code_125 : decode method_2_code 125 = .ok (.dup, 1) := by decide +kernel
theorem d_method_2_code_126 : decode method_2_code 126 = .ok (.aload 8, 2) := by decide +kernel
theorem d_method_2_code_128 : decode method_2_code 128 = .ok (.invokespecial 9, 3) := by decide +kernel
theorem d_method_2_code_131 : decode method_2_code 131 = .ok (.areturn, 1) := by decide +kernel
set_option maxRecDepth 65536 in
set_option maxHeartbeats 40000000 in
theorem rmD (l : Launch) (Z : State) (a0 : Array Value) (hw : ∀ d ∈ tables_1, d.before a0 Z = true) (ws : List Jvm.Cond) (kq : Int32) (x : Int32) (y : Int32) (z : Int32) (G1 : Int32) (h0 : Heap) (n0 : Nat) (Z0 : n0 ≤ h0.size) (FS : Sta Z h0 "java/lang/String" "COMPACT_STRINGS" "Z" (.int G1)) (hG : ¬ G1 = 0) :
    MetFree l mn21 (head1 (Jvm.Cond.code mn21 method_2_code 9 (some (.object "java/lang/String")) :: ws) ({ frames := 4, cells := 6, slots := 12, locals := 80 } : Room)) (fun aA U => aA = #[(.int kq), (.int x), (.int y), (.int z)] ∧ Z.Warmed39 U.vm ∧ U.heap = h0 ∧ GrmD Z kq x y z G1 h0 U.vm) (fun _ _ _ _ _ => True) (fun _ U o U' => ∃ vR LR, o = .returned vR ∧ QrmD Z kq x y z G1 h0 n0 vR U'.heap LR ∧ ReturnedEndW U o U' LR ({ frames := 4, cells := 6, slots := 12, locals := 80 } : Room).cells ({ frames := 4, cells := 6, slots := 12, locals := 80 } : Room).slots) := by
  refine MetFree.of_bodySF (plainFor_of_name pn_com_example_tokenward_tokenward_ApiExceptionBadRequestPinLaw) hisR ?_
  intro p e s m args below meth c s₁ Bd hml0 hPre hKk
  obtain ⟨rfl, hZ, hh, hCH0⟩ := hPre
  have hx := Bd.exec
  have hby := Bd.bytes
  skip
  have hml : c.maxLocals = 9 := hml0
  have hown : s.vm.findClass "com/example/tokenward/tokenward/ApiExceptionBadRequestPinLaw" = some m.cls := findClass_of_methodNamed Bd.named
  have hnm := (name_of_methodNamed Bd.named Bd.method).1
  have X0 : Stand p l e ({ frames := 4, cells := 6, slots := 12, locals := 80 } : Room) (s.setVm s.vm) m #[(.int kq), (.int x), (.int y), (.int z)] below meth c s₁ [] 0 0 := Stand.of_body Bd
  have e0 : s₁.heap = h0 := by rw [← hh, Bd.state]; rfl
  have N0 := Fr.nil n0
  obtain ⟨E0, hE0⟩ : ∃ zE : State, zE = s₁.setTop (entryFrame m #[(.int kq), (.int x), (.int y), (.int z)] 9) := ⟨_, rfl⟩
  have k0 : own_G p e below E0 s₁ (mkF m 0 #[vi kq, vi x, vi y, vi z, uu, uu, uu, uu, uu] []) := fun tz kz => hE0 ▸ castTop (ef_rmD m kq x y z G1) kz
  have S0 : s.Since s.vm 0 := (State.WarmedH.refl s).since 0
  have LE0 : own_Le 0 h0 := Nat.zero_le _
  have K0 : Keep h0 h0 [] := Keep.refl _ _
  have k461 : own_G p e below E0 s₁ (mkF m 31 #[vi kq, vi x, vi y, vi z, vi ((x &&& (255 : Int32)).toUInt32.toUInt16.toUInt32.toInt32), vi ((y &&& (255 : Int32)).toUInt32.toUInt16.toUInt32.toInt32), vi ((z &&& (255 : Int32)).toUInt32.toUInt16.toUInt32.toInt32), vi (kq &&& (3 : Int32)), uu] [(.int (kq &&& (3 : Int32)))]) := by
    intro tQ kk
    refine k0 tQ ?_
    refine XS.iloadN X0.here hx rfl (hb hby d_method_2_code_0) rfl ?_
    refine XS.sipush X0.here hx rfl (hb hby d_method_2_code_1) ?_
    refine XS.iand X0.here hx rfl (hb hby d_method_2_code_4) rfl ?_
    refine XT.i2c X0.here hx rfl (hb hby d_method_2_code_5) rfl ?_
    show Steps p.tables e below (s₁.setTop (mkF m 6 #[vi kq, vi x, vi y, vi z, uu, uu, uu, uu, uu] [(.int ((x &&& (255 : Int32)).toUInt32.toUInt16.toUInt32.toInt32))])) tQ
    refine XS.istore X0.here hx rfl (hb hby d_method_2_code_6) rfl (l' := #[vi kq, vi x, vi y, vi z, vi ((x &&& (255 : Int32)).toUInt32.toUInt16.toUInt32.toInt32), uu, uu, uu, uu]) rfl ?_
    refine XS.iloadN X0.here hx rfl (hb hby d_method_2_code_8) rfl ?_
    refine XS.sipush X0.here hx rfl (hb hby d_method_2_code_9) ?_
    refine XS.iand X0.here hx rfl (hb hby d_method_2_code_12) rfl ?_
    show Steps p.tables e below (s₁.setTop (mkF m 13 #[vi kq, vi x, vi y, vi z, vi ((x &&& (255 : Int32)).toUInt32.toUInt16.toUInt32.toInt32), uu, uu, uu, uu] [(.int (y &&& (255 : Int32)))])) tQ
    refine XT.i2c X0.here hx rfl (hb hby d_method_2_code_13) rfl ?_
    refine XS.istore X0.here hx rfl (hb hby d_method_2_code_14) rfl (l' := #[vi kq, vi x, vi y, vi z, vi ((x &&& (255 : Int32)).toUInt32.toUInt16.toUInt32.toInt32), vi ((y &&& (255 : Int32)).toUInt32.toUInt16.toUInt32.toInt32), uu, uu, uu]) rfl ?_
    refine XS.iloadN X0.here hx rfl (hb hby d_method_2_code_16) rfl ?_
    refine XS.sipush X0.here hx rfl (hb hby d_method_2_code_17) ?_
    show Steps p.tables e below (s₁.setTop (mkF m 20 #[vi kq, vi x, vi y, vi z, vi ((x &&& (255 : Int32)).toUInt32.toUInt16.toUInt32.toInt32), vi ((y &&& (255 : Int32)).toUInt32.toUInt16.toUInt32.toInt32), uu, uu, uu] [(.int (255 : Int32)), (.int z)])) tQ
    refine XS.iand X0.here hx rfl (hb hby d_method_2_code_20) rfl ?_
    refine XT.i2c X0.here hx rfl (hb hby d_method_2_code_21) rfl ?_
    refine XS.istore X0.here hx rfl (hb hby d_method_2_code_22) rfl (l' := #[vi kq, vi x, vi y, vi z, vi ((x &&& (255 : Int32)).toUInt32.toUInt16.toUInt32.toInt32), vi ((y &&& (255 : Int32)).toUInt32.toUInt16.toUInt32.toInt32), vi ((z &&& (255 : Int32)).toUInt32.toUInt16.toUInt32.toInt32), uu, uu]) rfl ?_
    refine XS.iloadN X0.here hx rfl (hb hby d_method_2_code_24) rfl ?_
    show Steps p.tables e below (s₁.setTop (mkF m 25 #[vi kq, vi x, vi y, vi z, vi ((x &&& (255 : Int32)).toUInt32.toUInt16.toUInt32.toInt32), vi ((y &&& (255 : Int32)).toUInt32.toUInt16.toUInt32.toInt32), vi ((z &&& (255 : Int32)).toUInt32.toUInt16.toUInt32.toInt32), uu, uu] [(.int kq)])) tQ
    refine XS.iconst X0.here hx rfl (hb hby d_method_2_code_25) ?_
    refine XS.iand X0.here hx rfl (hb hby d_method_2_code_26) rfl ?_
    refine XS.istore X0.here hx rfl (hb hby d_method_2_code_27) rfl (l' := #[vi kq, vi x, vi y, vi z, vi ((x &&& (255 : Int32)).toUInt32.toUInt16.toUInt32.toInt32), vi ((y &&& (255 : Int32)).toUInt32.toUInt16.toUInt32.toInt32), vi ((z &&& (255 : Int32)).toUInt32.toUInt16.toUInt32.toInt32), vi (kq &&& (3 : Int32)), uu]) rfl ?_
    refine XS.iload X0.here hx rfl (hb hby d_method_2_code_29) rfl ?_
    exact kk
  clear k0
  by_cases c462 : (kq &&& (3 : Int32)) = 0
  · skip
    have k463 : own_G p e below E0 s₁ (mkF m 34 #[vi kq, vi x, vi y, vi z, vi ((x &&& (255 : Int32)).toUInt32.toUInt16.toUInt32.toInt32), vi ((y &&& (255 : Int32)).toUInt32.toUInt16.toUInt32.toInt32), vi ((z &&& (255 : Int32)).toUInt32.toUInt16.toUInt32.toInt32), vi (kq &&& (3 : Int32)), uu] []) := by
      intro tQ kk
      refine k461 tQ ?_
      refine XS.ifNo X0.here hx rfl (hb hby d_method_2_code_31) rfl (own_if_neN c462) ?_
      exact kk
    clear k461
    obtain ⟨T464, h465, X466, e467, E468, A469, D470, Un474, st471⟩ := newO X0 hx hZ hown (tw4 hw) (tw5 hw) (tw6 hw) e0 (g := (mkF m 34 #[vi kq, vi x, vi y, vi z, vi ((x &&& (255 : Int32)).toUInt32.toUInt16.toUInt32.toInt32), vi ((y &&& (255 : Int32)).toUInt32.toUInt16.toUInt32.toInt32), vi ((z &&& (255 : Int32)).toUInt32.toUInt16.toUInt32.toInt32), vi (kq &&& (3 : Int32)), uu] [])) rfl (hb hby d_method_2_code_34) (by decide) (by decide)
    obtain ⟨a472, g473⟩ : ∃ zA : Nat, zA = h0.size := ⟨_, rfl⟩
    rw [← g473] at A469 D470 st471 Un474
    have nw475 : h0.size ≤ a472 := own_ge_of K0.1 g473
    have ge476 : n0 ≤ a472 := own_ge_of Z0 g473
    have Z477 : n0 ≤ h465.size := Nat.le_trans Z0 E468.1
    have F478 : Sta Z h465 "java/lang/String" "COMPACT_STRINGS" "Z" (.int G1) := FS.ext E468
    clear FS
    have F479 : own_Le 0 h465 := LE0.ext E468
    have Sf480 := Safe.ext (x := a472) E468 hCH0 (Safe.new (Nat.le_of_eq g473.symm))
    have CH481 := CHv.ext E468 hCH0
    have K482 : Keep h0 h465 [] := K0.ext E468
    have Un483 : Unt h465 a472 := Un474
    have F484 : Fld Z h465 a472 "java/lang/String" "value" "[B" .null := (D470 (Or.inr (tw20 hw)) (ty := (.array .byte)) (by decide))
    have F485 : Fld Z h465 a472 "java/lang/String" "coder" "B" (.int (0 : Int32)) := (D470 (Or.inr (tw21 hw)) (ty := .byte) (by decide))
    have k486 : own_G p e below E0 T464 (mkF m 37 #[vi kq, vi x, vi y, vi z, vi ((x &&& (255 : Int32)).toUInt32.toUInt16.toUInt32.toInt32), vi ((y &&& (255 : Int32)).toUInt32.toUInt16.toUInt32.toInt32), vi ((z &&& (255 : Int32)).toUInt32.toUInt16.toUInt32.toInt32), vi (kq &&& (3 : Int32)), uu] [(.ref a472)]) := fun tQ kk => k463 tQ (st471 _ kk)
    clear k463 st471
    have k487 : own_G p e below E0 T464 (mkF m 39 #[vi kq, vi x, vi y, vi z, vi ((x &&& (255 : Int32)).toUInt32.toUInt16.toUInt32.toInt32), vi ((y &&& (255 : Int32)).toUInt32.toUInt16.toUInt32.toInt32), vi ((z &&& (255 : Int32)).toUInt32.toUInt16.toUInt32.toInt32), vi (kq &&& (3 : Int32)), uu] [(.int (0 : Int32)), (.ref a472), (.ref a472)]) := by
      intro tQ kk
      refine k486 tQ ?_
      refine XS.dup X466.here hx rfl (hb hby d_method_2_code_37) rfl rfl ?_
      refine XS.iconst X466.here hx rfl (hb hby d_method_2_code_38) ?_
      exact kk
    clear k486
    obtain ⟨T488, h489, cA490, X491, e492, E493, A494, st495⟩ := newP (aty := .char) X466 hx hZ (tw7 hw) e467 (g := (mkF m 39 #[vi kq, vi x, vi y, vi z, vi ((x &&& (255 : Int32)).toUInt32.toUInt16.toUInt32.toInt32), vi ((y &&& (255 : Int32)).toUInt32.toUInt16.toUInt32.toInt32), vi ((z &&& (255 : Int32)).toUInt32.toUInt16.toUInt32.toInt32), vi (kq &&& (3 : Int32)), uu] [(.int (0 : Int32)), (.ref a472), (.ref a472)])) rfl (hb hby d_method_2_code_39) rfl (by decide) (cap := 0) (by decide) (by decide) (by decide) (by decide)
    obtain ⟨a496, g497⟩ : ∃ zA : Nat, zA = h465.size := ⟨_, rfl⟩
    rw [← g497] at A494 st495
    have n498 : a472 ≠ a496 := own_lt_ne A469.lt g497
    have n499 : a496 ≠ a472 := fun q => n498 q.symm
    have nw500 : h0.size ≤ a496 := own_ge_of K482.1 g497
    have ge501 : n0 ≤ a496 := own_ge_of Z477 g497
    have Z502 : n0 ≤ h489.size := Nat.le_trans Z477 E493.1
    clear Z477
    have F503 : Sta Z h489 "java/lang/String" "COMPACT_STRINGS" "Z" (.int G1) := F478.ext E493
    clear F478
    have F504 : own_Le 0 h489 := F479.ext E493
    clear F479
    have F505 : xa15 Z h489 a472 := A469.ext E493
    clear A469
    have F506 : Unt h489 a472 := Un483.ext E493
    clear Un483
    have F507 : fd16 Z h489 a472 .null := F484.ext E493
    clear F484
    have F508 : fd17 Z h489 a472 (.int (0 : Int32)) := F485.ext E493
    clear F485
    have Sf509 := Safe.ext E493 CH481 Sf480
    have Sf510 := Safe.ext (x := a496) E493 CH481 (Safe.new (Nat.le_of_eq g497.symm))
    have CH511 := CHv.ext E493 CH481
    have K512 : Keep h0 h489 [] := K482.ext E493
    clear K482
    have F513 : own_A Z h489 a496 .char [] := own_A.new A494
    have k514 : own_G p e below E0 T488 (mkF m 41 #[vi kq, vi x, vi y, vi z, vi ((x &&& (255 : Int32)).toUInt32.toUInt16.toUInt32.toInt32), vi ((y &&& (255 : Int32)).toUInt32.toUInt16.toUInt32.toInt32), vi ((z &&& (255 : Int32)).toUInt32.toUInt16.toUInt32.toInt32), vi (kq &&& (3 : Int32)), uu] [(.ref a496), (.ref a472), (.ref a472)]) := fun tQ kk => k487 tQ (st495 _ kk)
    clear k487 st495
    obtain ⟨_, _, ⟨T515, L516, kc517, nc518⟩, -, X519, S526, G527, ⟨Lc520, hQ521, l522, y523, z524⟩, st525⟩ := X491.specialBackS hx (y := mn19) rfl hown (mvT hZ (tw8 hw)) (mvT hZ (tw9 hw)) (mvT hZ (tw10 hw)) (by decide) (own_backG (G := GrmS1 Z a472 a496 h489) (W := 1) (rmS1 l Z a0 hw [] a472 a496 h489 n0 Z502 F505 F507 F508 F513 n498 ge476) hZ (tw10 hw) (tw6 hw) (by decide) (by decide) (fun vm1 A => ⟨A.1, A.safe F505.lt Sf509⟩) (own_EWt hw) CH511) (g := (mkF m 41 #[vi kq, vi x, vi y, vi z, vi ((x &&& (255 : Int32)).toUInt32.toUInt16.toUInt32.toInt32), vi ((y &&& (255 : Int32)).toUInt32.toUInt16.toUInt32.toInt32), vi ((z &&& (255 : Int32)).toUInt32.toUInt16.toUInt32.toInt32), vi (kq &&& (3 : Int32)), uu] [(.ref a496), (.ref a472), (.ref a472)])) rfl (by rw [hml]; rfl) (Steps.refl _) (a := a472) (argsL := [(.ref a496)]) (rest := [(.ref a472)]) (lenOf pd_22 rfl) rfl (by show 2 * 0 + _ ≤ _; exact Nat.le_of_eq rfl) (hb hby d_method_2_code_41) (fun _ _ => ⟨rfl, e492, (by decide : 2 + 4 ≤ _), (by decide : 4 + 8 ≤ _)⟩)
    dsimp only [Pt.U, Pt.locs, Pt.cells, Pt.slots] at X519 l522 y523 z524 st525 hQ521 S526 G527
    subst y523 z524
    obtain ⟨X528, S529, hZ, hown⟩ := rebS S0 (Nat.le_trans F504 (Nat.le_of_eq (congrArg Array.size e492.symm))) X519 S526 G527 hZ hown
    clear X519 S526 G527
    obtain ⟨rfl, N530, K533⟩ := hQ521
    have N534 : Fr n0 L516 := by rw [l522]; exact Fr.app N0 N530
    clear l522 N530
    have Z535 : n0 ≤ T515.heap.size := Nat.le_trans Z502 K533.1
    clear Z502
    have F536 : xa15 Z T515.heap a472 := F505.keep K533
    clear F505
    clear F506
    clear F507
    clear F508
    have F537 : own_A Z T515.heap a496 .char [] := F513.keep K533 (ninS n499 nin0)
    clear F513
    have K538 : Keep h0 T515.heap [] := K512.trans K533 (allS (Or.inr nw475) all0)
    clear K512
    have F539 : own_Le T515.heap.size T515.heap := Nat.le_refl _
    have k540 : own_G p e below E0 T515 (mkF m 44 #[vi kq, vi x, vi y, vi z, vi ((x &&& (255 : Int32)).toUInt32.toUInt16.toUInt32.toInt32), vi ((y &&& (255 : Int32)).toUInt32.toUInt16.toUInt32.toInt32), vi ((z &&& (255 : Int32)).toUInt32.toUInt16.toUInt32.toInt32), vi (kq &&& (3 : Int32)), uu] [(.ref a472)]) := fun tQ kk => k514 tQ (st525.trans kk)
    clear k514 st525
    obtain ⟨fs, hr, hrun, hended, hRW⟩ := X528.leaveW S529 F539 (v := some (.ref a472)) (fun h => by rw [Bd.returns] at h; cases h)
    have hrun0 := k540 _ (retOut X528 hx Bd.returns (t := (.object "java/lang/String")) rfl (Or.inr (Or.inr (Or.inr (Or.inr ⟨rfl, rfl, rfl⟩)))) (hb hby d_method_2_code_44) hr)
    subst hE0
    refine ⟨_, _, hrun0, hrun, hended, _, _, rfl, ?_, ⟨_, rfl⟩, hRW.2.1, hRW.2.2.1, hRW.2.2.2.mono (by decide) (by decide)⟩
    show QrmD Z kq x y z G1 h0 n0 _ T515.heap _
    exact ⟨a472, rfl, N534, K538, nw475⟩
  · skip
    have k541 : own_G p e below E0 s₁ (mkF m 48 #[vi kq, vi x, vi y, vi z, vi ((x &&& (255 : Int32)).toUInt32.toUInt16.toUInt32.toInt32), vi ((y &&& (255 : Int32)).toUInt32.toUInt16.toUInt32.toInt32), vi ((z &&& (255 : Int32)).toUInt32.toUInt16.toUInt32.toInt32), vi (kq &&& (3 : Int32)), uu] [(.int (1 : Int32)), (.int (kq &&& (3 : Int32)))]) := by
      intro tQ kk
      refine k461 tQ ?_
      refine XS.ifYes X0.here hx rfl (pc0 := 31) (pc' := 45) rfl (hb hby d_method_2_code_31) rfl (own_if_neY c462) (by decide) (by decide) ?_
      refine XS.iload X0.here hx rfl (hb hby d_method_2_code_45) rfl ?_
      refine XS.iconst X0.here hx rfl (hb hby d_method_2_code_47) ?_
      exact kk
    clear k461
    by_cases c542 : (kq &&& (3 : Int32)) = (1 : Int32)
    · skip
      have k543 : own_G p e below E0 s₁ (mkF m 52 #[vi kq, vi x, vi y, vi z, vi ((x &&& (255 : Int32)).toUInt32.toUInt16.toUInt32.toInt32), vi ((y &&& (255 : Int32)).toUInt32.toUInt16.toUInt32.toInt32), vi ((z &&& (255 : Int32)).toUInt32.toUInt16.toUInt32.toInt32), vi (kq &&& (3 : Int32)), uu] [(.int (1 : Int32))]) := by
        intro tQ kk
        refine k541 tQ ?_
        refine XS.icmpNo X0.here hx rfl (hb hby d_method_2_code_48) rfl (own_ic_neN c542) ?_
        refine XS.iconst X0.here hx rfl (hb hby d_method_2_code_51) ?_
        exact kk
      clear k541
      obtain ⟨T544, h545, cA546, X547, e548, E549, A550, st551⟩ := newP (aty := .char) X0 hx hZ (tw7 hw) e0 (g := (mkF m 52 #[vi kq, vi x, vi y, vi z, vi ((x &&& (255 : Int32)).toUInt32.toUInt16.toUInt32.toInt32), vi ((y &&& (255 : Int32)).toUInt32.toUInt16.toUInt32.toInt32), vi ((z &&& (255 : Int32)).toUInt32.toUInt16.toUInt32.toInt32), vi (kq &&& (3 : Int32)), uu] [(.int (1 : Int32))])) rfl (hb hby d_method_2_code_52) rfl (by decide) (cap := 1) (by decide) (by decide) (by decide) (by decide)
      obtain ⟨a552, g553⟩ : ∃ zA : Nat, zA = h0.size := ⟨_, rfl⟩
      rw [← g553] at A550 st551
      have nw554 : h0.size ≤ a552 := own_ge_of K0.1 g553
      have ge555 : n0 ≤ a552 := own_ge_of Z0 g553
      have Z556 : n0 ≤ h545.size := Nat.le_trans Z0 E549.1
      have F557 : Sta Z h545 "java/lang/String" "COMPACT_STRINGS" "Z" (.int G1) := FS.ext E549
      clear FS
      have F558 : own_Le 0 h545 := LE0.ext E549
      have Sf559 := Safe.ext (x := a552) E549 hCH0 (Safe.new (Nat.le_of_eq g553.symm))
      have CH560 := CHv.ext E549 hCH0
      have K561 : Keep h0 h545 [] := K0.ext E549
      have F562 : own_A Z h545 a552 .char [(.int (0 : Int32))] := own_A.new A550
      have k563 : own_G p e below E0 T544 (mkF m 54 #[vi kq, vi x, vi y, vi z, vi ((x &&& (255 : Int32)).toUInt32.toUInt16.toUInt32.toInt32), vi ((y &&& (255 : Int32)).toUInt32.toUInt16.toUInt32.toInt32), vi ((z &&& (255 : Int32)).toUInt32.toUInt16.toUInt32.toInt32), vi (kq &&& (3 : Int32)), uu] [(.ref a552)]) := fun tQ kk => k543 tQ (st551 _ kk)
      clear k543 st551
      have k564 : own_G p e below E0 T544 (mkF m 58 #[vi kq, vi x, vi y, vi z, vi ((x &&& (255 : Int32)).toUInt32.toUInt16.toUInt32.toInt32), vi ((y &&& (255 : Int32)).toUInt32.toUInt16.toUInt32.toInt32), vi ((z &&& (255 : Int32)).toUInt32.toUInt16.toUInt32.toInt32), vi (kq &&& (3 : Int32)), uu] [(.int ((x &&& (255 : Int32)).toUInt32.toUInt16.toUInt32.toInt32)), (.int (0 : Int32)), (.ref a552), (.ref a552)]) := by
        intro tQ kk
        refine k563 tQ ?_
        refine XS.dup X547.here hx rfl (hb hby d_method_2_code_54) rfl rfl ?_
        refine XS.iconst X547.here hx rfl (hb hby d_method_2_code_55) ?_
        refine XS.iload X547.here hx rfl (hb hby d_method_2_code_56) rfl ?_
        exact kk
      clear k563
      obtain ⟨T565, h566, X567, e568, W569, F570, st571⟩ := own_A.cst X547 hx hZ e548 F562 (j := (0 : Int32)) (by decide) rfl (g := (mkF m 58 #[vi kq, vi x, vi y, vi z, vi ((x &&& (255 : Int32)).toUInt32.toUInt16.toUInt32.toInt32), vi ((y &&& (255 : Int32)).toUInt32.toUInt16.toUInt32.toInt32), vi ((z &&& (255 : Int32)).toUInt32.toUInt16.toUInt32.toInt32), vi (kq &&& (3 : Int32)), uu] [(.int ((x &&& (255 : Int32)).toUInt32.toUInt16.toUInt32.toInt32)), (.int (0 : Int32)), (.ref a552), (.ref a552)])) rfl rfl (hb hby d_method_2_code_58)
      have N572 := Fr.snoc X567 N0 ge555
      have k573 : own_G p e below E0 T565 (mkF m 59 #[vi kq, vi x, vi y, vi z, vi ((x &&& (255 : Int32)).toUInt32.toUInt16.toUInt32.toInt32), vi ((y &&& (255 : Int32)).toUInt32.toUInt16.toUInt32.toInt32), vi ((z &&& (255 : Int32)).toUInt32.toUInt16.toUInt32.toInt32), vi (kq &&& (3 : Int32)), uu] [(.ref a552)]) := fun tQ kk => k564 tQ (st571 _ kk)
      clear k564 st571
      have Sf574 := Safe.wr W569 Sf559 CH560 Sf559
      have CH575 := CHv.wr W569 Sf559 CH560
      have F576 : Sta Z h566 "java/lang/String" "COMPACT_STRINGS" "Z" (.int G1) := F557.wr W569
      clear F557
      have F577 : own_Le 0 h566 := F558.wr W569
      clear F558
      have Z578 : n0 ≤ h566.size := by rw [W569.size]; exact Z556
      clear Z556
      have K579 : Keep h0 h566 [] := K561.wr W569 (Or.inr nw554)
      clear K561
      have F580 : own_A Z h566 a552 .char [(.int (nar .char ((x &&& (255 : Int32)).toUInt32.toUInt16.toUInt32.toInt32)))] := F570
      have k581 : own_G p e below E0 T565 (mkF m 61 #[vi kq, vi x, vi y, vi z, vi ((x &&& (255 : Int32)).toUInt32.toUInt16.toUInt32.toInt32), vi ((y &&& (255 : Int32)).toUInt32.toUInt16.toUInt32.toInt32), vi ((z &&& (255 : Int32)).toUInt32.toUInt16.toUInt32.toInt32), vi (kq &&& (3 : Int32)), vr a552] []) := by
        intro tQ kk
        refine k573 tQ ?_
        refine XS.astore X567.here hx rfl (hb hby d_method_2_code_59) rfl rfl (l' := #[vi kq, vi x, vi y, vi z, vi ((x &&& (255 : Int32)).toUInt32.toUInt16.toUInt32.toInt32), vi ((y &&& (255 : Int32)).toUInt32.toUInt16.toUInt32.toInt32), vi ((z &&& (255 : Int32)).toUInt32.toUInt16.toUInt32.toInt32), vi (kq &&& (3 : Int32)), vr a552]) rfl ?_
        exact kk
      clear k573
      obtain ⟨T582, h583, X584, e585, E586, A587, D588, Un592, st589⟩ := newO X567 hx hZ hown (tw4 hw) (tw5 hw) (tw6 hw) e568 (g := (mkF m 61 #[vi kq, vi x, vi y, vi z, vi ((x &&& (255 : Int32)).toUInt32.toUInt16.toUInt32.toInt32), vi ((y &&& (255 : Int32)).toUInt32.toUInt16.toUInt32.toInt32), vi ((z &&& (255 : Int32)).toUInt32.toUInt16.toUInt32.toInt32), vi (kq &&& (3 : Int32)), vr a552] [])) rfl (hb hby d_method_2_code_61) (by decide) (by decide)
      obtain ⟨a590, g591⟩ : ∃ zA : Nat, zA = h566.size := ⟨_, rfl⟩
      rw [← g591] at A587 D588 st589 Un592
      have n593 : a552 ≠ a590 := own_lt_ne F580.lt g591
      have n594 : a590 ≠ a552 := fun q => n593 q.symm
      have nw595 : h0.size ≤ a590 := own_ge_of K579.1 g591
      have ge596 : n0 ≤ a590 := own_ge_of Z578 g591
      have Z597 : n0 ≤ h583.size := Nat.le_trans Z578 E586.1
      clear Z578
      have F598 : Sta Z h583 "java/lang/String" "COMPACT_STRINGS" "Z" (.int G1) := F576.ext E586
      clear F576
      have F599 : own_Le 0 h583 := F577.ext E586
      clear F577
      have F600 : own_A Z h583 a552 .char [(.int (nar .char ((x &&& (255 : Int32)).toUInt32.toUInt16.toUInt32.toInt32)))] := F580.ext E586
      clear F580
      have Sf601 := Safe.ext E586 CH575 Sf574
      have Sf602 := Safe.ext (x := a590) E586 CH575 (Safe.new (Nat.le_of_eq g591.symm))
      have CH603 := CHv.ext E586 CH575
      have K604 : Keep h0 h583 [] := K579.ext E586
      clear K579
      have Un605 : Unt h583 a590 := Un592
      have F606 : Fld Z h583 a590 "java/lang/String" "value" "[B" .null := (D588 (Or.inr (tw20 hw)) (ty := (.array .byte)) (by decide))
      have F607 : Fld Z h583 a590 "java/lang/String" "coder" "B" (.int (0 : Int32)) := (D588 (Or.inr (tw21 hw)) (ty := .byte) (by decide))
      have k608 : own_G p e below E0 T582 (mkF m 64 #[vi kq, vi x, vi y, vi z, vi ((x &&& (255 : Int32)).toUInt32.toUInt16.toUInt32.toInt32), vi ((y &&& (255 : Int32)).toUInt32.toUInt16.toUInt32.toInt32), vi ((z &&& (255 : Int32)).toUInt32.toUInt16.toUInt32.toInt32), vi (kq &&& (3 : Int32)), vr a552] [(.ref a590)]) := fun tQ kk => k581 tQ (st589 _ kk)
      clear k581 st589
      have k609 : own_G p e below E0 T582 (mkF m 67 #[vi kq, vi x, vi y, vi z, vi ((x &&& (255 : Int32)).toUInt32.toUInt16.toUInt32.toInt32), vi ((y &&& (255 : Int32)).toUInt32.toUInt16.toUInt32.toInt32), vi ((z &&& (255 : Int32)).toUInt32.toUInt16.toUInt32.toInt32), vi (kq &&& (3 : Int32)), vr a552] [(.ref a552), (.ref a590), (.ref a590)]) := by
        intro tQ kk
        refine k608 tQ ?_
        refine XS.dup X584.here hx rfl (hb hby d_method_2_code_64) rfl rfl ?_
        refine XS.aload X584.here hx rfl (hb hby d_method_2_code_65) rfl rfl ?_
        exact kk
      clear k608
      obtain ⟨kA610, FA611⟩ := own_A.arv F600 (1 : Int32) rfl (by decide) (.int 0) (by intro v hv; simp only [List.mem_cons, List.not_mem_nil, or_false] at hv; rcases hv with rfl <;> exact fits_nar_char _)
      have hl612 : ∀ c ∈ ([(nar .char ((x &&& (255 : Int32)).toUInt32.toUInt16.toUInt32.toInt32))] : List Int32), ¬ c < 0 ∧ ¬ (255 : Int32) < c := by
        intro c hc; simp only [List.mem_cons, List.not_mem_nil, or_false] at hc
        rcases hc with rfl
        · exact (own_lat x)
      obtain ⟨_, _, ⟨T613, L614, kc615, nc616⟩, -, X617, ⟨Lc618, hQ619, l620, y621, z622⟩, st623⟩ := X584.specialBack hx (y := mn19) rfl hown (mvT hZ (tw8 hw)) (mvT hZ (tw9 hw)) (mvT hZ (tw10 hw)) (by decide) (StrChars.Road.backV (W := 1) hZ (own_hws hw) (kI := 4) (tw5 hw) (cs := [(nar .char ((x &&& (255 : Int32)).toUInt32.toUInt16.toUInt32.toInt32))]) (bs := List.map (fun c => c.toInt8.toInt32) [(nar .char ((x &&& (255 : Int32)).toUInt32.toUInt16.toUInt32.toInt32))]) (n := 1) ge596 Z597 A587 F606 F607 FA611 F598 hG rfl rfl (by decide) (by decide) hl612 rfl (by decide) (by decide)) (g := (mkF m 67 #[vi kq, vi x, vi y, vi z, vi ((x &&& (255 : Int32)).toUInt32.toUInt16.toUInt32.toInt32), vi ((y &&& (255 : Int32)).toUInt32.toUInt16.toUInt32.toInt32), vi ((z &&& (255 : Int32)).toUInt32.toUInt16.toUInt32.toInt32), vi (kq &&& (3 : Int32)), vr a552] [(.ref a552), (.ref a590), (.ref a590)])) rfl (by rw [hml]; rfl) (Steps.refl _) (a := a590) (argsL := [(.ref a552)]) (rest := [(.ref a590)]) (lenOf pd_22 rfl) rfl (by show 2 * 0 + _ ≤ _; exact Nat.le_of_eq rfl) (hb hby d_method_2_code_67) (fun _ _ => ⟨rfl, e585, (by decide : 2 + 1 ≤ _), (by decide : 5 + 1 ≤ _)⟩)
      dsimp only [Pt.U, Pt.locs, Pt.cells, Pt.slots] at X617 l620 y621 z622 st623 hQ619
      subst y621 z622
      obtain ⟨rfl, N624, K625, -⟩ := hQ619
      have N626 : Fr n0 L614 := by rw [l620]; exact Fr.app N572 N624
      clear l620 N624
      have Z627 : n0 ≤ T613.heap.size := Nat.le_trans Z597 K625.1
      clear Z597
      have Sf628 := Safe.keep K625 (sfS Sf602 sf0) CH603 Sf601
      have Sf629 := Safe.keep K625 (sfS Sf602 sf0) CH603 Sf602
      have CH630 := CHv.keep K625 (sfS Sf602 sf0) CH603
      have F631 : own_Le 0 T613.heap := F599.keep K625
      clear F599
      have F632 : own_A Z T613.heap a552 .char [(.int (nar .char ((x &&& (255 : Int32)).toUInt32.toUInt16.toUInt32.toInt32)))] := F600.keep K625 (ninS n593 nin0)
      clear F600
      have F633 : xa15 Z T613.heap a590 := A587.keep K625
      clear A587
      clear Un605
      clear F606
      clear F607
      have K634 : Keep h0 T613.heap [] := K604.trans K625 (allS (Or.inr nw595) all0)
      clear K604
      have k635 : own_G p e below E0 T613 (mkF m 70 #[vi kq, vi x, vi y, vi z, vi ((x &&& (255 : Int32)).toUInt32.toUInt16.toUInt32.toInt32), vi ((y &&& (255 : Int32)).toUInt32.toUInt16.toUInt32.toInt32), vi ((z &&& (255 : Int32)).toUInt32.toUInt16.toUInt32.toInt32), vi (kq &&& (3 : Int32)), vr a552] [(.ref a590)]) := fun tQ kk => k609 tQ (st623.trans kk)
      clear k609 st623
      obtain ⟨fs, hr, hrun, hended, hRW⟩ := X617.leaveW S0 F631 (v := some (.ref a590)) (fun h => by rw [Bd.returns] at h; cases h)
      have hrun0 := k635 _ (retOut X617 hx Bd.returns (t := (.object "java/lang/String")) rfl (Or.inr (Or.inr (Or.inr (Or.inr ⟨rfl, rfl, rfl⟩)))) (hb hby d_method_2_code_70) hr)
      subst hE0
      refine ⟨_, _, hrun0, hrun, hended, _, _, rfl, ?_, ⟨_, rfl⟩, hRW.2.1, hRW.2.2.1, hRW.2.2.2.mono (by decide) (by decide)⟩
      show QrmD Z kq x y z G1 h0 n0 _ T613.heap _
      exact ⟨a590, rfl, N626, K634, nw595⟩
    · skip
      have k636 : own_G p e below E0 s₁ (mkF m 74 #[vi kq, vi x, vi y, vi z, vi ((x &&& (255 : Int32)).toUInt32.toUInt16.toUInt32.toInt32), vi ((y &&& (255 : Int32)).toUInt32.toUInt16.toUInt32.toInt32), vi ((z &&& (255 : Int32)).toUInt32.toUInt16.toUInt32.toInt32), vi (kq &&& (3 : Int32)), uu] [(.int (2 : Int32)), (.int (kq &&& (3 : Int32)))]) := by
        intro tQ kk
        refine k541 tQ ?_
        refine XS.icmpYes X0.here hx rfl (pc0 := 48) (pc' := 71) rfl (hb hby d_method_2_code_48) rfl (own_ic_neY c542) (by decide) (by decide) ?_
        refine XS.iload X0.here hx rfl (hb hby d_method_2_code_71) rfl ?_
        refine XS.iconst X0.here hx rfl (hb hby d_method_2_code_73) ?_
        exact kk
      clear k541
      by_cases c637 : (kq &&& (3 : Int32)) = (2 : Int32)
      · skip
        have k638 : own_G p e below E0 s₁ (mkF m 78 #[vi kq, vi x, vi y, vi z, vi ((x &&& (255 : Int32)).toUInt32.toUInt16.toUInt32.toInt32), vi ((y &&& (255 : Int32)).toUInt32.toUInt16.toUInt32.toInt32), vi ((z &&& (255 : Int32)).toUInt32.toUInt16.toUInt32.toInt32), vi (kq &&& (3 : Int32)), uu] [(.int (2 : Int32))]) := by
          intro tQ kk
          refine k636 tQ ?_
          refine XS.icmpNo X0.here hx rfl (hb hby d_method_2_code_74) rfl (own_ic_neN c637) ?_
          refine XS.iconst X0.here hx rfl (hb hby d_method_2_code_77) ?_
          exact kk
        clear k636
        obtain ⟨T639, h640, cA641, X642, e643, E644, A645, st646⟩ := newP (aty := .char) X0 hx hZ (tw7 hw) e0 (g := (mkF m 78 #[vi kq, vi x, vi y, vi z, vi ((x &&& (255 : Int32)).toUInt32.toUInt16.toUInt32.toInt32), vi ((y &&& (255 : Int32)).toUInt32.toUInt16.toUInt32.toInt32), vi ((z &&& (255 : Int32)).toUInt32.toUInt16.toUInt32.toInt32), vi (kq &&& (3 : Int32)), uu] [(.int (2 : Int32))])) rfl (hb hby d_method_2_code_78) rfl (by decide) (cap := 2) (by decide) (by decide) (by decide) (by decide)
        obtain ⟨a647, g648⟩ : ∃ zA : Nat, zA = h0.size := ⟨_, rfl⟩
        rw [← g648] at A645 st646
        have nw649 : h0.size ≤ a647 := own_ge_of K0.1 g648
        have ge650 : n0 ≤ a647 := own_ge_of Z0 g648
        have Z651 : n0 ≤ h640.size := Nat.le_trans Z0 E644.1
        have F652 : Sta Z h640 "java/lang/String" "COMPACT_STRINGS" "Z" (.int G1) := FS.ext E644
        clear FS
        have F653 : own_Le 0 h640 := LE0.ext E644
        have Sf654 := Safe.ext (x := a647) E644 hCH0 (Safe.new (Nat.le_of_eq g648.symm))
        have CH655 := CHv.ext E644 hCH0
        have K656 : Keep h0 h640 [] := K0.ext E644
        have F657 : own_A Z h640 a647 .char [(.int (0 : Int32)), (.int (0 : Int32))] := own_A.new A645
        have k658 : own_G p e below E0 T639 (mkF m 80 #[vi kq, vi x, vi y, vi z, vi ((x &&& (255 : Int32)).toUInt32.toUInt16.toUInt32.toInt32), vi ((y &&& (255 : Int32)).toUInt32.toUInt16.toUInt32.toInt32), vi ((z &&& (255 : Int32)).toUInt32.toUInt16.toUInt32.toInt32), vi (kq &&& (3 : Int32)), uu] [(.ref a647)]) := fun tQ kk => k638 tQ (st646 _ kk)
        clear k638 st646
        have k659 : own_G p e below E0 T639 (mkF m 84 #[vi kq, vi x, vi y, vi z, vi ((x &&& (255 : Int32)).toUInt32.toUInt16.toUInt32.toInt32), vi ((y &&& (255 : Int32)).toUInt32.toUInt16.toUInt32.toInt32), vi ((z &&& (255 : Int32)).toUInt32.toUInt16.toUInt32.toInt32), vi (kq &&& (3 : Int32)), uu] [(.int ((x &&& (255 : Int32)).toUInt32.toUInt16.toUInt32.toInt32)), (.int (0 : Int32)), (.ref a647), (.ref a647)]) := by
          intro tQ kk
          refine k658 tQ ?_
          refine XS.dup X642.here hx rfl (hb hby d_method_2_code_80) rfl rfl ?_
          refine XS.iconst X642.here hx rfl (hb hby d_method_2_code_81) ?_
          refine XS.iload X642.here hx rfl (hb hby d_method_2_code_82) rfl ?_
          exact kk
        clear k658
        obtain ⟨T660, h661, X662, e663, W664, F665, st666⟩ := own_A.cst X642 hx hZ e643 F657 (j := (0 : Int32)) (by decide) rfl (g := (mkF m 84 #[vi kq, vi x, vi y, vi z, vi ((x &&& (255 : Int32)).toUInt32.toUInt16.toUInt32.toInt32), vi ((y &&& (255 : Int32)).toUInt32.toUInt16.toUInt32.toInt32), vi ((z &&& (255 : Int32)).toUInt32.toUInt16.toUInt32.toInt32), vi (kq &&& (3 : Int32)), uu] [(.int ((x &&& (255 : Int32)).toUInt32.toUInt16.toUInt32.toInt32)), (.int (0 : Int32)), (.ref a647), (.ref a647)])) rfl rfl (hb hby d_method_2_code_84)
        have N667 := Fr.snoc X662 N0 ge650
        have k668 : own_G p e below E0 T660 (mkF m 85 #[vi kq, vi x, vi y, vi z, vi ((x &&& (255 : Int32)).toUInt32.toUInt16.toUInt32.toInt32), vi ((y &&& (255 : Int32)).toUInt32.toUInt16.toUInt32.toInt32), vi ((z &&& (255 : Int32)).toUInt32.toUInt16.toUInt32.toInt32), vi (kq &&& (3 : Int32)), uu] [(.ref a647)]) := fun tQ kk => k659 tQ (st666 _ kk)
        clear k659 st666
        have Sf669 := Safe.wr W664 Sf654 CH655 Sf654
        have CH670 := CHv.wr W664 Sf654 CH655
        have F671 : Sta Z h661 "java/lang/String" "COMPACT_STRINGS" "Z" (.int G1) := F652.wr W664
        clear F652
        have F672 : own_Le 0 h661 := F653.wr W664
        clear F653
        have Z673 : n0 ≤ h661.size := by rw [W664.size]; exact Z651
        clear Z651
        have K674 : Keep h0 h661 [] := K656.wr W664 (Or.inr nw649)
        clear K656
        have F675 : own_A Z h661 a647 .char [(.int (nar .char ((x &&& (255 : Int32)).toUInt32.toUInt16.toUInt32.toInt32))), (.int (0 : Int32))] := F665
        have k676 : own_G p e below E0 T660 (mkF m 89 #[vi kq, vi x, vi y, vi z, vi ((x &&& (255 : Int32)).toUInt32.toUInt16.toUInt32.toInt32), vi ((y &&& (255 : Int32)).toUInt32.toUInt16.toUInt32.toInt32), vi ((z &&& (255 : Int32)).toUInt32.toUInt16.toUInt32.toInt32), vi (kq &&& (3 : Int32)), uu] [(.int ((y &&& (255 : Int32)).toUInt32.toUInt16.toUInt32.toInt32)), (.int (1 : Int32)), (.ref a647), (.ref a647)]) := by
          intro tQ kk
          refine k668 tQ ?_
          refine XS.dup X662.here hx rfl (hb hby d_method_2_code_85) rfl rfl ?_
          refine XS.iconst X662.here hx rfl (hb hby d_method_2_code_86) ?_
          refine XS.iload X662.here hx rfl (hb hby d_method_2_code_87) rfl ?_
          exact kk
        clear k668
        obtain ⟨T677, h678, X679, e680, W681, F682, st683⟩ := own_A.cst X662 hx hZ e663 F675 (j := (1 : Int32)) (by decide) rfl (g := (mkF m 89 #[vi kq, vi x, vi y, vi z, vi ((x &&& (255 : Int32)).toUInt32.toUInt16.toUInt32.toInt32), vi ((y &&& (255 : Int32)).toUInt32.toUInt16.toUInt32.toInt32), vi ((z &&& (255 : Int32)).toUInt32.toUInt16.toUInt32.toInt32), vi (kq &&& (3 : Int32)), uu] [(.int ((y &&& (255 : Int32)).toUInt32.toUInt16.toUInt32.toInt32)), (.int (1 : Int32)), (.ref a647), (.ref a647)])) rfl rfl (hb hby d_method_2_code_89)
        have N684 := Fr.snoc X679 N667 ge650
        have k685 : own_G p e below E0 T677 (mkF m 90 #[vi kq, vi x, vi y, vi z, vi ((x &&& (255 : Int32)).toUInt32.toUInt16.toUInt32.toInt32), vi ((y &&& (255 : Int32)).toUInt32.toUInt16.toUInt32.toInt32), vi ((z &&& (255 : Int32)).toUInt32.toUInt16.toUInt32.toInt32), vi (kq &&& (3 : Int32)), uu] [(.ref a647)]) := fun tQ kk => k676 tQ (st683 _ kk)
        clear k676 st683
        have Sf686 := Safe.wr W681 Sf669 CH670 Sf669
        have CH687 := CHv.wr W681 Sf669 CH670
        have F688 : Sta Z h678 "java/lang/String" "COMPACT_STRINGS" "Z" (.int G1) := F671.wr W681
        clear F671
        have F689 : own_Le 0 h678 := F672.wr W681
        clear F672
        have Z690 : n0 ≤ h678.size := by rw [W681.size]; exact Z673
        clear Z673
        have K691 : Keep h0 h678 [] := K674.wr W681 (Or.inr nw649)
        clear K674
        have F692 : own_A Z h678 a647 .char [(.int (nar .char ((x &&& (255 : Int32)).toUInt32.toUInt16.toUInt32.toInt32))), (.int (nar .char ((y &&& (255 : Int32)).toUInt32.toUInt16.toUInt32.toInt32)))] := F682
        have k693 : own_G p e below E0 T677 (mkF m 92 #[vi kq, vi x, vi y, vi z, vi ((x &&& (255 : Int32)).toUInt32.toUInt16.toUInt32.toInt32), vi ((y &&& (255 : Int32)).toUInt32.toUInt16.toUInt32.toInt32), vi ((z &&& (255 : Int32)).toUInt32.toUInt16.toUInt32.toInt32), vi (kq &&& (3 : Int32)), vr a647] []) := by
          intro tQ kk
          refine k685 tQ ?_
          refine XS.astore X679.here hx rfl (hb hby d_method_2_code_90) rfl rfl (l' := #[vi kq, vi x, vi y, vi z, vi ((x &&& (255 : Int32)).toUInt32.toUInt16.toUInt32.toInt32), vi ((y &&& (255 : Int32)).toUInt32.toUInt16.toUInt32.toInt32), vi ((z &&& (255 : Int32)).toUInt32.toUInt16.toUInt32.toInt32), vi (kq &&& (3 : Int32)), vr a647]) rfl ?_
          exact kk
        clear k685
        obtain ⟨T694, h695, X696, e697, E698, A699, D700, Un704, st701⟩ := newO X679 hx hZ hown (tw4 hw) (tw5 hw) (tw6 hw) e680 (g := (mkF m 92 #[vi kq, vi x, vi y, vi z, vi ((x &&& (255 : Int32)).toUInt32.toUInt16.toUInt32.toInt32), vi ((y &&& (255 : Int32)).toUInt32.toUInt16.toUInt32.toInt32), vi ((z &&& (255 : Int32)).toUInt32.toUInt16.toUInt32.toInt32), vi (kq &&& (3 : Int32)), vr a647] [])) rfl (hb hby d_method_2_code_92) (by decide) (by decide)
        obtain ⟨a702, g703⟩ : ∃ zA : Nat, zA = h678.size := ⟨_, rfl⟩
        rw [← g703] at A699 D700 st701 Un704
        have n705 : a647 ≠ a702 := own_lt_ne F692.lt g703
        have n706 : a702 ≠ a647 := fun q => n705 q.symm
        have nw707 : h0.size ≤ a702 := own_ge_of K691.1 g703
        have ge708 : n0 ≤ a702 := own_ge_of Z690 g703
        have Z709 : n0 ≤ h695.size := Nat.le_trans Z690 E698.1
        clear Z690
        have F710 : Sta Z h695 "java/lang/String" "COMPACT_STRINGS" "Z" (.int G1) := F688.ext E698
        clear F688
        have F711 : own_Le 0 h695 := F689.ext E698
        clear F689
        have F712 : own_A Z h695 a647 .char [(.int (nar .char ((x &&& (255 : Int32)).toUInt32.toUInt16.toUInt32.toInt32))), (.int (nar .char ((y &&& (255 : Int32)).toUInt32.toUInt16.toUInt32.toInt32)))] := F692.ext E698
        clear F692
        have Sf713 := Safe.ext E698 CH687 Sf686
        have Sf714 := Safe.ext (x := a702) E698 CH687 (Safe.new (Nat.le_of_eq g703.symm))
        have CH715 := CHv.ext E698 CH687
        have K716 : Keep h0 h695 [] := K691.ext E698
        clear K691
        have Un717 : Unt h695 a702 := Un704
        have F718 : Fld Z h695 a702 "java/lang/String" "value" "[B" .null := (D700 (Or.inr (tw20 hw)) (ty := (.array .byte)) (by decide))
        have F719 : Fld Z h695 a702 "java/lang/String" "coder" "B" (.int (0 : Int32)) := (D700 (Or.inr (tw21 hw)) (ty := .byte) (by decide))
        have k720 : own_G p e below E0 T694 (mkF m 95 #[vi kq, vi x, vi y, vi z, vi ((x &&& (255 : Int32)).toUInt32.toUInt16.toUInt32.toInt32), vi ((y &&& (255 : Int32)).toUInt32.toUInt16.toUInt32.toInt32), vi ((z &&& (255 : Int32)).toUInt32.toUInt16.toUInt32.toInt32), vi (kq &&& (3 : Int32)), vr a647] [(.ref a702)]) := fun tQ kk => k693 tQ (st701 _ kk)
        clear k693 st701
        have k721 : own_G p e below E0 T694 (mkF m 98 #[vi kq, vi x, vi y, vi z, vi ((x &&& (255 : Int32)).toUInt32.toUInt16.toUInt32.toInt32), vi ((y &&& (255 : Int32)).toUInt32.toUInt16.toUInt32.toInt32), vi ((z &&& (255 : Int32)).toUInt32.toUInt16.toUInt32.toInt32), vi (kq &&& (3 : Int32)), vr a647] [(.ref a647), (.ref a702), (.ref a702)]) := by
          intro tQ kk
          refine k720 tQ ?_
          refine XS.dup X696.here hx rfl (hb hby d_method_2_code_95) rfl rfl ?_
          refine XS.aload X696.here hx rfl (hb hby d_method_2_code_96) rfl rfl ?_
          exact kk
        clear k720
        obtain ⟨kA722, FA723⟩ := own_A.arv F712 (2 : Int32) rfl (by decide) (.int 0) (by intro v hv; simp only [List.mem_cons, List.not_mem_nil, or_false] at hv; rcases hv with rfl | rfl <;> exact fits_nar_char _)
        have hl724 : ∀ c ∈ ([(nar .char ((x &&& (255 : Int32)).toUInt32.toUInt16.toUInt32.toInt32)), (nar .char ((y &&& (255 : Int32)).toUInt32.toUInt16.toUInt32.toInt32))] : List Int32), ¬ c < 0 ∧ ¬ (255 : Int32) < c := by
          intro c hc; simp only [List.mem_cons, List.not_mem_nil, or_false] at hc
          rcases hc with rfl | rfl
          · exact (own_lat x)
          · exact (own_lat y)
        obtain ⟨_, _, ⟨T725, L726, kc727, nc728⟩, -, X729, ⟨Lc730, hQ731, l732, y733, z734⟩, st735⟩ := X696.specialBack hx (y := mn19) rfl hown (mvT hZ (tw8 hw)) (mvT hZ (tw9 hw)) (mvT hZ (tw10 hw)) (by decide) (StrChars.Road.backV (W := 1) hZ (own_hws hw) (kI := 4) (tw5 hw) (cs := [(nar .char ((x &&& (255 : Int32)).toUInt32.toUInt16.toUInt32.toInt32)), (nar .char ((y &&& (255 : Int32)).toUInt32.toUInt16.toUInt32.toInt32))]) (bs := List.map (fun c => c.toInt8.toInt32) [(nar .char ((x &&& (255 : Int32)).toUInt32.toUInt16.toUInt32.toInt32)), (nar .char ((y &&& (255 : Int32)).toUInt32.toUInt16.toUInt32.toInt32))]) (n := 2) ge708 Z709 A699 F718 F719 FA723 F710 hG rfl rfl (by decide) (by decide) hl724 rfl (by decide) (by decide)) (g := (mkF m 98 #[vi kq, vi x, vi y, vi z, vi ((x &&& (255 : Int32)).toUInt32.toUInt16.toUInt32.toInt32), vi ((y &&& (255 : Int32)).toUInt32.toUInt16.toUInt32.toInt32), vi ((z &&& (255 : Int32)).toUInt32.toUInt16.toUInt32.toInt32), vi (kq &&& (3 : Int32)), vr a647] [(.ref a647), (.ref a702), (.ref a702)])) rfl (by rw [hml]; rfl) (Steps.refl _) (a := a702) (argsL := [(.ref a647)]) (rest := [(.ref a702)]) (lenOf pd_22 rfl) rfl (by show 2 * 0 + _ ≤ _; exact Nat.le_of_eq rfl) (hb hby d_method_2_code_98) (fun _ _ => ⟨rfl, e697, (by decide : 2 + 1 ≤ _), (by decide : 6 + 2 ≤ _)⟩)
        dsimp only [Pt.U, Pt.locs, Pt.cells, Pt.slots] at X729 l732 y733 z734 st735 hQ731
        subst y733 z734
        obtain ⟨rfl, N736, K737, -⟩ := hQ731
        have N738 : Fr n0 L726 := by rw [l732]; exact Fr.app N684 N736
        clear l732 N736
        have Z739 : n0 ≤ T725.heap.size := Nat.le_trans Z709 K737.1
        clear Z709
        have Sf740 := Safe.keep K737 (sfS Sf714 sf0) CH715 Sf713
        have Sf741 := Safe.keep K737 (sfS Sf714 sf0) CH715 Sf714
        have CH742 := CHv.keep K737 (sfS Sf714 sf0) CH715
        have F743 : own_Le 0 T725.heap := F711.keep K737
        clear F711
        have F744 : own_A Z T725.heap a647 .char [(.int (nar .char ((x &&& (255 : Int32)).toUInt32.toUInt16.toUInt32.toInt32))), (.int (nar .char ((y &&& (255 : Int32)).toUInt32.toUInt16.toUInt32.toInt32)))] := F712.keep K737 (ninS n705 nin0)
        clear F712
        have F745 : xa15 Z T725.heap a702 := A699.keep K737
        clear A699
        clear Un717
        clear F718
        clear F719
        have K746 : Keep h0 T725.heap [] := K716.trans K737 (allS (Or.inr nw707) all0)
        clear K716
        have k747 : own_G p e below E0 T725 (mkF m 101 #[vi kq, vi x, vi y, vi z, vi ((x &&& (255 : Int32)).toUInt32.toUInt16.toUInt32.toInt32), vi ((y &&& (255 : Int32)).toUInt32.toUInt16.toUInt32.toInt32), vi ((z &&& (255 : Int32)).toUInt32.toUInt16.toUInt32.toInt32), vi (kq &&& (3 : Int32)), vr a647] [(.ref a702)]) := fun tQ kk => k721 tQ (st735.trans kk)
        clear k721 st735
        obtain ⟨fs, hr, hrun, hended, hRW⟩ := X729.leaveW S0 F743 (v := some (.ref a702)) (fun h => by rw [Bd.returns] at h; cases h)
        have hrun0 := k747 _ (retOut X729 hx Bd.returns (t := (.object "java/lang/String")) rfl (Or.inr (Or.inr (Or.inr (Or.inr ⟨rfl, rfl, rfl⟩)))) (hb hby d_method_2_code_101) hr)
        subst hE0
        refine ⟨_, _, hrun0, hrun, hended, _, _, rfl, ?_, ⟨_, rfl⟩, hRW.2.1, hRW.2.2.1, hRW.2.2.2.mono (by decide) (by decide)⟩
        show QrmD Z kq x y z G1 h0 n0 _ T725.heap _
        exact ⟨a702, rfl, N738, K746, nw707⟩
      · skip
        have k748 : own_G p e below E0 s₁ (mkF m 103 #[vi kq, vi x, vi y, vi z, vi ((x &&& (255 : Int32)).toUInt32.toUInt16.toUInt32.toInt32), vi ((y &&& (255 : Int32)).toUInt32.toUInt16.toUInt32.toInt32), vi ((z &&& (255 : Int32)).toUInt32.toUInt16.toUInt32.toInt32), vi (kq &&& (3 : Int32)), uu] [(.int (3 : Int32))]) := by
          intro tQ kk
          refine k636 tQ ?_
          refine XS.icmpYes X0.here hx rfl (pc0 := 74) (pc' := 102) rfl (hb hby d_method_2_code_74) rfl (own_ic_neY c637) (by decide) (by decide) ?_
          refine XS.iconst X0.here hx rfl (hb hby d_method_2_code_102) ?_
          exact kk
        clear k636
        obtain ⟨T749, h750, cA751, X752, e753, E754, A755, st756⟩ := newP (aty := .char) X0 hx hZ (tw7 hw) e0 (g := (mkF m 103 #[vi kq, vi x, vi y, vi z, vi ((x &&& (255 : Int32)).toUInt32.toUInt16.toUInt32.toInt32), vi ((y &&& (255 : Int32)).toUInt32.toUInt16.toUInt32.toInt32), vi ((z &&& (255 : Int32)).toUInt32.toUInt16.toUInt32.toInt32), vi (kq &&& (3 : Int32)), uu] [(.int (3 : Int32))])) rfl (hb hby d_method_2_code_103) rfl (by decide) (cap := 3) (by decide) (by decide) (by decide) (by decide)
        obtain ⟨a757, g758⟩ : ∃ zA : Nat, zA = h0.size := ⟨_, rfl⟩
        rw [← g758] at A755 st756
        have nw759 : h0.size ≤ a757 := own_ge_of K0.1 g758
        have ge760 : n0 ≤ a757 := own_ge_of Z0 g758
        have Z761 : n0 ≤ h750.size := Nat.le_trans Z0 E754.1
        have F762 : Sta Z h750 "java/lang/String" "COMPACT_STRINGS" "Z" (.int G1) := FS.ext E754
        clear FS
        have F763 : own_Le 0 h750 := LE0.ext E754
        have Sf764 := Safe.ext (x := a757) E754 hCH0 (Safe.new (Nat.le_of_eq g758.symm))
        have CH765 := CHv.ext E754 hCH0
        have K766 : Keep h0 h750 [] := K0.ext E754
        have F767 : own_A Z h750 a757 .char [(.int (0 : Int32)), (.int (0 : Int32)), (.int (0 : Int32))] := own_A.new A755
        have k768 : own_G p e below E0 T749 (mkF m 105 #[vi kq, vi x, vi y, vi z, vi ((x &&& (255 : Int32)).toUInt32.toUInt16.toUInt32.toInt32), vi ((y &&& (255 : Int32)).toUInt32.toUInt16.toUInt32.toInt32), vi ((z &&& (255 : Int32)).toUInt32.toUInt16.toUInt32.toInt32), vi (kq &&& (3 : Int32)), uu] [(.ref a757)]) := fun tQ kk => k748 tQ (st756 _ kk)
        clear k748 st756
        have k769 : own_G p e below E0 T749 (mkF m 109 #[vi kq, vi x, vi y, vi z, vi ((x &&& (255 : Int32)).toUInt32.toUInt16.toUInt32.toInt32), vi ((y &&& (255 : Int32)).toUInt32.toUInt16.toUInt32.toInt32), vi ((z &&& (255 : Int32)).toUInt32.toUInt16.toUInt32.toInt32), vi (kq &&& (3 : Int32)), uu] [(.int ((x &&& (255 : Int32)).toUInt32.toUInt16.toUInt32.toInt32)), (.int (0 : Int32)), (.ref a757), (.ref a757)]) := by
          intro tQ kk
          refine k768 tQ ?_
          refine XS.dup X752.here hx rfl (hb hby d_method_2_code_105) rfl rfl ?_
          refine XS.iconst X752.here hx rfl (hb hby d_method_2_code_106) ?_
          refine XS.iload X752.here hx rfl (hb hby d_method_2_code_107) rfl ?_
          exact kk
        clear k768
        obtain ⟨T770, h771, X772, e773, W774, F775, st776⟩ := own_A.cst X752 hx hZ e753 F767 (j := (0 : Int32)) (by decide) rfl (g := (mkF m 109 #[vi kq, vi x, vi y, vi z, vi ((x &&& (255 : Int32)).toUInt32.toUInt16.toUInt32.toInt32), vi ((y &&& (255 : Int32)).toUInt32.toUInt16.toUInt32.toInt32), vi ((z &&& (255 : Int32)).toUInt32.toUInt16.toUInt32.toInt32), vi (kq &&& (3 : Int32)), uu] [(.int ((x &&& (255 : Int32)).toUInt32.toUInt16.toUInt32.toInt32)), (.int (0 : Int32)), (.ref a757), (.ref a757)])) rfl rfl (hb hby d_method_2_code_109)
        have N777 := Fr.snoc X772 N0 ge760
        have k778 : own_G p e below E0 T770 (mkF m 110 #[vi kq, vi x, vi y, vi z, vi ((x &&& (255 : Int32)).toUInt32.toUInt16.toUInt32.toInt32), vi ((y &&& (255 : Int32)).toUInt32.toUInt16.toUInt32.toInt32), vi ((z &&& (255 : Int32)).toUInt32.toUInt16.toUInt32.toInt32), vi (kq &&& (3 : Int32)), uu] [(.ref a757)]) := fun tQ kk => k769 tQ (st776 _ kk)
        clear k769 st776
        have Sf779 := Safe.wr W774 Sf764 CH765 Sf764
        have CH780 := CHv.wr W774 Sf764 CH765
        have F781 : Sta Z h771 "java/lang/String" "COMPACT_STRINGS" "Z" (.int G1) := F762.wr W774
        clear F762
        have F782 : own_Le 0 h771 := F763.wr W774
        clear F763
        have Z783 : n0 ≤ h771.size := by rw [W774.size]; exact Z761
        clear Z761
        have K784 : Keep h0 h771 [] := K766.wr W774 (Or.inr nw759)
        clear K766
        have F785 : own_A Z h771 a757 .char [(.int (nar .char ((x &&& (255 : Int32)).toUInt32.toUInt16.toUInt32.toInt32))), (.int (0 : Int32)), (.int (0 : Int32))] := F775
        have k786 : own_G p e below E0 T770 (mkF m 114 #[vi kq, vi x, vi y, vi z, vi ((x &&& (255 : Int32)).toUInt32.toUInt16.toUInt32.toInt32), vi ((y &&& (255 : Int32)).toUInt32.toUInt16.toUInt32.toInt32), vi ((z &&& (255 : Int32)).toUInt32.toUInt16.toUInt32.toInt32), vi (kq &&& (3 : Int32)), uu] [(.int ((y &&& (255 : Int32)).toUInt32.toUInt16.toUInt32.toInt32)), (.int (1 : Int32)), (.ref a757), (.ref a757)]) := by
          intro tQ kk
          refine k778 tQ ?_
          refine XS.dup X772.here hx rfl (hb hby d_method_2_code_110) rfl rfl ?_
          refine XS.iconst X772.here hx rfl (hb hby d_method_2_code_111) ?_
          refine XS.iload X772.here hx rfl (hb hby d_method_2_code_112) rfl ?_
          exact kk
        clear k778
        obtain ⟨T787, h788, X789, e790, W791, F792, st793⟩ := own_A.cst X772 hx hZ e773 F785 (j := (1 : Int32)) (by decide) rfl (g := (mkF m 114 #[vi kq, vi x, vi y, vi z, vi ((x &&& (255 : Int32)).toUInt32.toUInt16.toUInt32.toInt32), vi ((y &&& (255 : Int32)).toUInt32.toUInt16.toUInt32.toInt32), vi ((z &&& (255 : Int32)).toUInt32.toUInt16.toUInt32.toInt32), vi (kq &&& (3 : Int32)), uu] [(.int ((y &&& (255 : Int32)).toUInt32.toUInt16.toUInt32.toInt32)), (.int (1 : Int32)), (.ref a757), (.ref a757)])) rfl rfl (hb hby d_method_2_code_114)
        have N794 := Fr.snoc X789 N777 ge760
        have k795 : own_G p e below E0 T787 (mkF m 115 #[vi kq, vi x, vi y, vi z, vi ((x &&& (255 : Int32)).toUInt32.toUInt16.toUInt32.toInt32), vi ((y &&& (255 : Int32)).toUInt32.toUInt16.toUInt32.toInt32), vi ((z &&& (255 : Int32)).toUInt32.toUInt16.toUInt32.toInt32), vi (kq &&& (3 : Int32)), uu] [(.ref a757)]) := fun tQ kk => k786 tQ (st793 _ kk)
        clear k786 st793
        have Sf796 := Safe.wr W791 Sf779 CH780 Sf779
        have CH797 := CHv.wr W791 Sf779 CH780
        have F798 : Sta Z h788 "java/lang/String" "COMPACT_STRINGS" "Z" (.int G1) := F781.wr W791
        clear F781
        have F799 : own_Le 0 h788 := F782.wr W791
        clear F782
        have Z800 : n0 ≤ h788.size := by rw [W791.size]; exact Z783
        clear Z783
        have K801 : Keep h0 h788 [] := K784.wr W791 (Or.inr nw759)
        clear K784
        have F802 : own_A Z h788 a757 .char [(.int (nar .char ((x &&& (255 : Int32)).toUInt32.toUInt16.toUInt32.toInt32))), (.int (nar .char ((y &&& (255 : Int32)).toUInt32.toUInt16.toUInt32.toInt32))), (.int (0 : Int32))] := F792
        have k803 : own_G p e below E0 T787 (mkF m 119 #[vi kq, vi x, vi y, vi z, vi ((x &&& (255 : Int32)).toUInt32.toUInt16.toUInt32.toInt32), vi ((y &&& (255 : Int32)).toUInt32.toUInt16.toUInt32.toInt32), vi ((z &&& (255 : Int32)).toUInt32.toUInt16.toUInt32.toInt32), vi (kq &&& (3 : Int32)), uu] [(.int ((z &&& (255 : Int32)).toUInt32.toUInt16.toUInt32.toInt32)), (.int (2 : Int32)), (.ref a757), (.ref a757)]) := by
          intro tQ kk
          refine k795 tQ ?_
          refine XS.dup X789.here hx rfl (hb hby d_method_2_code_115) rfl rfl ?_
          refine XS.iconst X789.here hx rfl (hb hby d_method_2_code_116) ?_
          refine XS.iload X789.here hx rfl (hb hby d_method_2_code_117) rfl ?_
          exact kk
        clear k795
        obtain ⟨T804, h805, X806, e807, W808, F809, st810⟩ := own_A.cst X789 hx hZ e790 F802 (j := (2 : Int32)) (by decide) rfl (g := (mkF m 119 #[vi kq, vi x, vi y, vi z, vi ((x &&& (255 : Int32)).toUInt32.toUInt16.toUInt32.toInt32), vi ((y &&& (255 : Int32)).toUInt32.toUInt16.toUInt32.toInt32), vi ((z &&& (255 : Int32)).toUInt32.toUInt16.toUInt32.toInt32), vi (kq &&& (3 : Int32)), uu] [(.int ((z &&& (255 : Int32)).toUInt32.toUInt16.toUInt32.toInt32)), (.int (2 : Int32)), (.ref a757), (.ref a757)])) rfl rfl (hb hby d_method_2_code_119)
        have N811 := Fr.snoc X806 N794 ge760
        have k812 : own_G p e below E0 T804 (mkF m 120 #[vi kq, vi x, vi y, vi z, vi ((x &&& (255 : Int32)).toUInt32.toUInt16.toUInt32.toInt32), vi ((y &&& (255 : Int32)).toUInt32.toUInt16.toUInt32.toInt32), vi ((z &&& (255 : Int32)).toUInt32.toUInt16.toUInt32.toInt32), vi (kq &&& (3 : Int32)), uu] [(.ref a757)]) := fun tQ kk => k803 tQ (st810 _ kk)
        clear k803 st810
        have Sf813 := Safe.wr W808 Sf796 CH797 Sf796
        have CH814 := CHv.wr W808 Sf796 CH797
        have F815 : Sta Z h805 "java/lang/String" "COMPACT_STRINGS" "Z" (.int G1) := F798.wr W808
        clear F798
        have F816 : own_Le 0 h805 := F799.wr W808
        clear F799
        have Z817 : n0 ≤ h805.size := by rw [W808.size]; exact Z800
        clear Z800
        have K818 : Keep h0 h805 [] := K801.wr W808 (Or.inr nw759)
        clear K801
        have F819 : own_A Z h805 a757 .char [(.int (nar .char ((x &&& (255 : Int32)).toUInt32.toUInt16.toUInt32.toInt32))), (.int (nar .char ((y &&& (255 : Int32)).toUInt32.toUInt16.toUInt32.toInt32))), (.int (nar .char ((z &&& (255 : Int32)).toUInt32.toUInt16.toUInt32.toInt32)))] := F809
        have k820 : own_G p e below E0 T804 (mkF m 122 #[vi kq, vi x, vi y, vi z, vi ((x &&& (255 : Int32)).toUInt32.toUInt16.toUInt32.toInt32), vi ((y &&& (255 : Int32)).toUInt32.toUInt16.toUInt32.toInt32), vi ((z &&& (255 : Int32)).toUInt32.toUInt16.toUInt32.toInt32), vi (kq &&& (3 : Int32)), vr a757] []) := by
          intro tQ kk
          refine k812 tQ ?_
          refine XS.astore X806.here hx rfl (hb hby d_method_2_code_120) rfl rfl (l' := #[vi kq, vi x, vi y, vi z, vi ((x &&& (255 : Int32)).toUInt32.toUInt16.toUInt32.toInt32), vi ((y &&& (255 : Int32)).toUInt32.toUInt16.toUInt32.toInt32), vi ((z &&& (255 : Int32)).toUInt32.toUInt16.toUInt32.toInt32), vi (kq &&& (3 : Int32)), vr a757]) rfl ?_
          exact kk
        clear k812
        obtain ⟨T821, h822, X823, e824, E825, A826, D827, Un831, st828⟩ := newO X806 hx hZ hown (tw4 hw) (tw5 hw) (tw6 hw) e807 (g := (mkF m 122 #[vi kq, vi x, vi y, vi z, vi ((x &&& (255 : Int32)).toUInt32.toUInt16.toUInt32.toInt32), vi ((y &&& (255 : Int32)).toUInt32.toUInt16.toUInt32.toInt32), vi ((z &&& (255 : Int32)).toUInt32.toUInt16.toUInt32.toInt32), vi (kq &&& (3 : Int32)), vr a757] [])) rfl (hb hby d_method_2_code_122) (by decide) (by decide)
        obtain ⟨a829, g830⟩ : ∃ zA : Nat, zA = h805.size := ⟨_, rfl⟩
        rw [← g830] at A826 D827 st828 Un831
        have n832 : a757 ≠ a829 := own_lt_ne F819.lt g830
        have n833 : a829 ≠ a757 := fun q => n832 q.symm
        have nw834 : h0.size ≤ a829 := own_ge_of K818.1 g830
        have ge835 : n0 ≤ a829 := own_ge_of Z817 g830
        have Z836 : n0 ≤ h822.size := Nat.le_trans Z817 E825.1
        clear Z817
        have F837 : Sta Z h822 "java/lang/String" "COMPACT_STRINGS" "Z" (.int G1) := F815.ext E825
        clear F815
        have F838 : own_Le 0 h822 := F816.ext E825
        clear F816
        have F839 : own_A Z h822 a757 .char [(.int (nar .char ((x &&& (255 : Int32)).toUInt32.toUInt16.toUInt32.toInt32))), (.int (nar .char ((y &&& (255 : Int32)).toUInt32.toUInt16.toUInt32.toInt32))), (.int (nar .char ((z &&& (255 : Int32)).toUInt32.toUInt16.toUInt32.toInt32)))] := F819.ext E825
        clear F819
        have Sf840 := Safe.ext E825 CH814 Sf813
        have Sf841 := Safe.ext (x := a829) E825 CH814 (Safe.new (Nat.le_of_eq g830.symm))
        have CH842 := CHv.ext E825 CH814
        have K843 : Keep h0 h822 [] := K818.ext E825
        clear K818
        have Un844 : Unt h822 a829 := Un831
        have F845 : Fld Z h822 a829 "java/lang/String" "value" "[B" .null := (D827 (Or.inr (tw20 hw)) (ty := (.array .byte)) (by decide))
        have F846 : Fld Z h822 a829 "java/lang/String" "coder" "B" (.int (0 : Int32)) := (D827 (Or.inr (tw21 hw)) (ty := .byte) (by decide))
        have k847 : own_G p e below E0 T821 (mkF m 125 #[vi kq, vi x, vi y, vi z, vi ((x &&& (255 : Int32)).toUInt32.toUInt16.toUInt32.toInt32), vi ((y &&& (255 : Int32)).toUInt32.toUInt16.toUInt32.toInt32), vi ((z &&& (255 : Int32)).toUInt32.toUInt16.toUInt32.toInt32), vi (kq &&& (3 : Int32)), vr a757] [(.ref a829)]) := fun tQ kk => k820 tQ (st828 _ kk)
        clear k820 st828
        have k848 : own_G p e below E0 T821 (mkF m 128 #[vi kq, vi x, vi y, vi z, vi ((x &&& (255 : Int32)).toUInt32.toUInt16.toUInt32.toInt32), vi ((y &&& (255 : Int32)).toUInt32.toUInt16.toUInt32.toInt32), vi ((z &&& (255 : Int32)).toUInt32.toUInt16.toUInt32.toInt32), vi (kq &&& (3 : Int32)), vr a757] [(.ref a757), (.ref a829), (.ref a829)]) := by
          intro tQ kk
          refine k847 tQ ?_
          refine XS.dup X823.here hx rfl (hb hby d_method_2_code_125) rfl rfl ?_
          refine XS.aload X823.here hx rfl (hb hby d_method_2_code_126) rfl rfl ?_
          exact kk
        clear k847
        obtain ⟨kA849, FA850⟩ := own_A.arv F839 (3 : Int32) rfl (by decide) (.int 0) (by intro v hv; simp only [List.mem_cons, List.not_mem_nil, or_false] at hv; rcases hv with rfl | rfl | rfl <;> exact fits_nar_char _)
        have hl851 : ∀ c ∈ ([(nar .char ((x &&& (255 : Int32)).toUInt32.toUInt16.toUInt32.toInt32)), (nar .char ((y &&& (255 : Int32)).toUInt32.toUInt16.toUInt32.toInt32)), (nar .char ((z &&& (255 : Int32)).toUInt32.toUInt16.toUInt32.toInt32))] : List Int32), ¬ c < 0 ∧ ¬ (255 : Int32) < c := by
          intro c hc; simp only [List.mem_cons, List.not_mem_nil, or_false] at hc
          rcases hc with rfl | rfl | rfl
          · exact (own_lat x)
          · exact (own_lat y)
          · exact (own_lat z)
        obtain ⟨_, _, ⟨T852, L853, kc854, nc855⟩, -, X856, ⟨Lc857, hQ858, l859, y860, z861⟩, st862⟩ := X823.specialBack hx (y := mn19) rfl hown (mvT hZ (tw8 hw)) (mvT hZ (tw9 hw)) (mvT hZ (tw10 hw)) (by decide) (StrChars.Road.backV (W := 1) hZ (own_hws hw) (kI := 4) (tw5 hw) (cs := [(nar .char ((x &&& (255 : Int32)).toUInt32.toUInt16.toUInt32.toInt32)), (nar .char ((y &&& (255 : Int32)).toUInt32.toUInt16.toUInt32.toInt32)), (nar .char ((z &&& (255 : Int32)).toUInt32.toUInt16.toUInt32.toInt32))]) (bs := List.map (fun c => c.toInt8.toInt32) [(nar .char ((x &&& (255 : Int32)).toUInt32.toUInt16.toUInt32.toInt32)), (nar .char ((y &&& (255 : Int32)).toUInt32.toUInt16.toUInt32.toInt32)), (nar .char ((z &&& (255 : Int32)).toUInt32.toUInt16.toUInt32.toInt32))]) (n := 3) ge835 Z836 A826 F845 F846 FA850 F837 hG rfl rfl (by decide) (by decide) hl851 rfl (by decide) (by decide)) (g := (mkF m 128 #[vi kq, vi x, vi y, vi z, vi ((x &&& (255 : Int32)).toUInt32.toUInt16.toUInt32.toInt32), vi ((y &&& (255 : Int32)).toUInt32.toUInt16.toUInt32.toInt32), vi ((z &&& (255 : Int32)).toUInt32.toUInt16.toUInt32.toInt32), vi (kq &&& (3 : Int32)), vr a757] [(.ref a757), (.ref a829), (.ref a829)])) rfl (by rw [hml]; rfl) (Steps.refl _) (a := a829) (argsL := [(.ref a757)]) (rest := [(.ref a829)]) (lenOf pd_22 rfl) rfl (by show 2 * 0 + _ ≤ _; exact Nat.le_of_eq rfl) (hb hby d_method_2_code_128) (fun _ _ => ⟨rfl, e824, (by decide : 2 + 1 ≤ _), (by decide : 7 + 3 ≤ _)⟩)
        dsimp only [Pt.U, Pt.locs, Pt.cells, Pt.slots] at X856 l859 y860 z861 st862 hQ858
        subst y860 z861
        obtain ⟨rfl, N863, K864, -⟩ := hQ858
        have N865 : Fr n0 L853 := by rw [l859]; exact Fr.app N811 N863
        clear l859 N863
        have Z866 : n0 ≤ T852.heap.size := Nat.le_trans Z836 K864.1
        clear Z836
        have Sf867 := Safe.keep K864 (sfS Sf841 sf0) CH842 Sf840
        have Sf868 := Safe.keep K864 (sfS Sf841 sf0) CH842 Sf841
        have CH869 := CHv.keep K864 (sfS Sf841 sf0) CH842
        have F870 : own_Le 0 T852.heap := F838.keep K864
        clear F838
        have F871 : own_A Z T852.heap a757 .char [(.int (nar .char ((x &&& (255 : Int32)).toUInt32.toUInt16.toUInt32.toInt32))), (.int (nar .char ((y &&& (255 : Int32)).toUInt32.toUInt16.toUInt32.toInt32))), (.int (nar .char ((z &&& (255 : Int32)).toUInt32.toUInt16.toUInt32.toInt32)))] := F839.keep K864 (ninS n832 nin0)
        clear F839
        have F872 : xa15 Z T852.heap a829 := A826.keep K864
        clear A826
        clear Un844
        clear F845
        clear F846
        have K873 : Keep h0 T852.heap [] := K843.trans K864 (allS (Or.inr nw834) all0)
        clear K843
        have k874 : own_G p e below E0 T852 (mkF m 131 #[vi kq, vi x, vi y, vi z, vi ((x &&& (255 : Int32)).toUInt32.toUInt16.toUInt32.toInt32), vi ((y &&& (255 : Int32)).toUInt32.toUInt16.toUInt32.toInt32), vi ((z &&& (255 : Int32)).toUInt32.toUInt16.toUInt32.toInt32), vi (kq &&& (3 : Int32)), vr a757] [(.ref a829)]) := fun tQ kk => k848 tQ (st862.trans kk)
        clear k848 st862
        obtain ⟨fs, hr, hrun, hended, hRW⟩ := X856.leaveW S0 F870 (v := some (.ref a829)) (fun h => by rw [Bd.returns] at h; cases h)
        have hrun0 := k874 _ (retOut X856 hx Bd.returns (t := (.object "java/lang/String")) rfl (Or.inr (Or.inr (Or.inr (Or.inr ⟨rfl, rfl, rfl⟩)))) (hb hby d_method_2_code_131) hr)
        subst hE0
        refine ⟨_, _, hrun0, hrun, hended, _, _, rfl, ?_, ⟨_, rfl⟩, hRW.2.1, hRW.2.2.1, hRW.2.2.2.mono (by decide) (by decide)⟩
        show QrmD Z kq x y z G1 h0 n0 _ T852.heap _
        exact ⟨a829, rfl, N865, K873, nw834⟩
def Qrm0 (Z : State) (p0 : Int32) (p1 : Int32) (p2 : Int32) (p3 : Int32) (G1 : Int32) (uS : Value) (sS : Value) (h0 : Heap) (n0 : Nat) (vQ : Option Value) (hQ : Heap) (LQ : List Loc) : Prop := vQ = some (.int (1 : Int32)) ∧ Fr n0 LQ
theorem ef_rm0 (m : MethodId) (p0 : Int32) (p1 : Int32) (p2 : Int32) (p3 : Int32) (G1 : Int32) (uS : Value) (sS : Value) : entryFrame m #[(.int p0), (.int p1), (.int p2), (.int p3)] maxLocals = mkF m 0 #[vi p0, vi p1, vi p2, vi p3, uu, uu, uu] [] := by first | (simp [entryFrame, mkF, argsToLocals, Value.category, maxLocals]; done) | rfl
abbrev Grm0 (Z : State) (p0 : Int32) (p1 : Int32) (p2 : Int32) (p3 : Int32) (G1 : Int32) (uS : Value) (sS : Value) (h0 : Heap) (vm : Vm) : Prop := CHv Z consts_1 vm h0
def tw0 {Z : State} {a0 : Array Value} (hw : ∀ d ∈ tables_1, d.before a0 Z = true) := hw _ (List.mem_of_getElem? (i := 0) rfl)
def tw3 {Z : State} {a0 : Array Value} (hw : ∀ d ∈ tables_1, d.before a0 Z = true) := hw _ (List.mem_of_getElem? (i := 3) rfl)
def tw2 {Z : State} {a0 : Array Value} (hw : ∀ d ∈ tables_1, d.before a0 Z = true) := hw _ (List.mem_of_getElem? (i := 2) rfl)
theorem pd_23 : parseMethodDescriptor "(IIII)Ljava/lang/String;" = some ⟨[.int, .int, .int, .int], some (.object "java/lang/String")⟩ := by decide +kernel
def tw1 {Z : State} {a0 : Array Value} (hw : ∀ d ∈ tables_1, d.before a0 Z = true) := hw _ (List.mem_of_getElem? (i := 1) rfl)
def tw26 {Z : State} {a0 : Array Value} (hw : ∀ d ∈ tables_1, d.before a0 Z = true) := hw _ (List.mem_of_getElem? (i := 26) rfl)
def tw29 {Z : State} {a0 : Array Value} (hw : ∀ d ∈ tables_1, d.before a0 Z = true) := hw _ (List.mem_of_getElem? (i := 29) rfl)
theorem pd_24 : parseMethodDescriptor "(Ljava/lang/String;)Lcom/example/tokenward/tokenward/ApiException;" = some ⟨[(.object "java/lang/String")], some (.object "com/example/tokenward/tokenward/ApiException")⟩ := by decide +kernel
def tw27 {Z : State} {a0 : Array Value} (hw : ∀ d ∈ tables_1, d.before a0 Z = true) := hw _ (List.mem_of_getElem? (i := 27) rfl)
def tw65 {Z : State} {a0 : Array Value} (hw : ∀ d ∈ tables_1, d.before a0 Z = true) := hw _ (List.mem_of_getElem? (i := 65) rfl)
def tw68 {Z : State} {a0 : Array Value} (hw : ∀ d ∈ tables_1, d.before a0 Z = true) := hw _ (List.mem_of_getElem? (i := 68) rfl)
def tw69 {Z : State} {a0 : Array Value} (hw : ∀ d ∈ tables_1, d.before a0 Z = true) := hw _ (List.mem_of_getElem? (i := 69) rfl)
theorem pd_25 : parseMethodDescriptor "()I" = some ⟨[], some .int⟩ := by decide +kernel
def tw66 {Z : State} {a0 : Array Value} (hw : ∀ d ∈ tables_1, d.before a0 Z = true) := hw _ (List.mem_of_getElem? (i := 66) rfl)
def tw67 {Z : State} {a0 : Array Value} (hw : ∀ d ∈ tables_1, d.before a0 Z = true) := hw _ (List.mem_of_getElem? (i := 67) rfl)
def tw70 {Z : State} {a0 : Array Value} (hw : ∀ d ∈ tables_1, d.before a0 Z = true) := hw _ (List.mem_of_getElem? (i := 70) rfl)
def tw74 {Z : State} {a0 : Array Value} (hw : ∀ d ∈ tables_1, d.before a0 Z = true) := hw _ (List.mem_of_getElem? (i := 74) rfl)
def tw71 {Z : State} {a0 : Array Value} (hw : ∀ d ∈ tables_1, d.before a0 Z = true) := hw _ (List.mem_of_getElem? (i := 71) rfl)
def tw75 {Z : State} {a0 : Array Value} (hw : ∀ d ∈ tables_1, d.before a0 Z = true) := hw _ (List.mem_of_getElem? (i := 75) rfl)
theorem pd_26 : parseMethodDescriptor "()Ljava/lang/String;" = some ⟨[], some (.object "java/lang/String")⟩ := by decide +kernel
abbrev mn27 : MethodName := ⟨"com/example/tokenward/tokenward/ApiException", "getMessage", "()Ljava/lang/String;"⟩
def tw72 {Z : State} {a0 : Array Value} (hw : ∀ d ∈ tables_1, d.before a0 Z = true) := hw _ (List.mem_of_getElem? (i := 72) rfl)
def tw73 {Z : State} {a0 : Array Value} (hw : ∀ d ∈ tables_1, d.before a0 Z = true) := hw _ (List.mem_of_getElem? (i := 73) rfl)
def tw76 {Z : State} {a0 : Array Value} (hw : ∀ d ∈ tables_1, d.before a0 Z = true) := hw _ (List.mem_of_getElem? (i := 76) rfl)
def tw80 {Z : State} {a0 : Array Value} (hw : ∀ d ∈ tables_1, d.before a0 Z = true) := hw _ (List.mem_of_getElem? (i := 80) rfl)
def tw77 {Z : State} {a0 : Array Value} (hw : ∀ d ∈ tables_1, d.before a0 Z = true) := hw _ (List.mem_of_getElem? (i := 77) rfl)
abbrev mn28 : MethodName := ⟨"com/example/tokenward/tokenward/ApiException", "getCause", "()Ljava/lang/Throwable;"⟩
def tw78 {Z : State} {a0 : Array Value} (hw : ∀ d ∈ tables_1, d.before a0 Z = true) := hw _ (List.mem_of_getElem? (i := 78) rfl)
def tw79 {Z : State} {a0 : Array Value} (hw : ∀ d ∈ tables_1, d.before a0 Z = true) := hw _ (List.mem_of_getElem? (i := 79) rfl)
def tw81 {Z : State} {a0 : Array Value} (hw : ∀ d ∈ tables_1, d.before a0 Z = true) := hw _ (List.mem_of_getElem? (i := 81) rfl)
theorem pd_29 : parseMethodDescriptor "()Ljava/lang/Throwable;" = some ⟨[], some (.object "java/lang/Throwable")⟩ := by decide +kernel
set_option maxRecDepth 65536 in
set_option maxHeartbeats 40000000 in
theorem rm0 (l : Launch) (Z : State) (a0 : Array Value) (hw : ∀ d ∈ tables_1, d.before a0 Z = true) (ws : List Jvm.Cond) (p0 : Int32) (p1 : Int32) (p2 : Int32) (p3 : Int32) (G1 : Int32) (uS : Value) (sS : Value) (h0 : Heap) (n0 : Nat) (Z0 : n0 ≤ h0.size) (FS : Sta Z h0 "java/lang/String" "COMPACT_STRINGS" "Z" (.int G1)) (O1 : Old Z n0 h0) (hG : ¬ G1 = 0) (oU : Sta Z Z.heap "java/lang/Throwable" "UNASSIGNED_STACK" "[Ljava/lang/StackTraceElement;" uS) (hu : uS.isRef = true) (oS : Sta Z Z.heap "java/lang/Throwable" "SUPPRESSED_SENTINEL" "Ljava/util/List;" sS) (hs : sS.isRef = true) :
    MetFree l x (head1 (Jvm.Cond.code x code maxLocals ret :: ws) room_1) (fun aA U => aA = #[(.int p0), (.int p1), (.int p2), (.int p3)] ∧ Z.Warmed39 U.vm ∧ U.heap = h0 ∧ Grm0 Z p0 p1 p2 p3 G1 uS sS h0 U.vm) (fun _ _ _ _ _ => True) (fun _ U o U' => ∃ vR LR, o = .returned vR ∧ Qrm0 Z p0 p1 p2 p3 G1 uS sS h0 n0 vR U'.heap LR ∧ ReturnedEndW U o U' LR 24 1152) := by
  refine MetFree.of_bodySF (plainFor_of_name pn_com_example_tokenward_tokenward_ApiExceptionBadRequestPinLaw) hisR ?_
  intro p e s m args below meth c s₁ Bd hml0 hPre hKk
  obtain ⟨rfl, hZ, hh, hCH0⟩ := hPre
  have hx := Bd.exec
  have hby := Bd.bytes
  skip
  have hml : c.maxLocals = 7 := hml0
  have hown : s.vm.findClass "com/example/tokenward/tokenward/ApiExceptionBadRequestPinLaw" = some m.cls := findClass_of_methodNamed Bd.named
  have hnm := (name_of_methodNamed Bd.named Bd.method).1
  have X0 : Stand p l e room_1 (s.setVm s.vm) m #[(.int p0), (.int p1), (.int p2), (.int p3)] below meth c s₁ [] 0 0 := Stand.of_body Bd
  have e0 : s₁.heap = h0 := by rw [← hh, Bd.state]; rfl
  have N0 := Fr.nil n0
  obtain ⟨E0, hE0⟩ : ∃ zE : State, zE = s₁.setTop (entryFrame m #[(.int p0), (.int p1), (.int p2), (.int p3)] maxLocals) := ⟨_, rfl⟩
  have k0 : own_G p e below E0 s₁ (mkF m 0 #[vi p0, vi p1, vi p2, vi p3, uu, uu, uu] []) := fun tz kz => hE0 ▸ castTop (ef_rm0 m p0 p1 p2 p3 G1 uS sS) kz
  have S0 : s.Since s.vm 0 := (State.WarmedH.refl s).since 0
  have LE0 : own_Le 0 h0 := Nat.zero_le _
  have k875 : own_G p e below E0 s₁ (mkF m 3 #[vi p0, vi p1, vi p2, vi p3, uu, uu, uu] [(.int (p0 &&& (4 : Int32)))]) := by
    intro tQ kk
    refine k0 tQ ?_
    refine XS.iloadN X0.here hx rfl (hb hby at_0) rfl ?_
    refine XS.iconst X0.here hx rfl (hb hby at_1) ?_
    refine XS.iand X0.here hx rfl (hb hby at_2) rfl ?_
    exact kk
  clear k0
  by_cases c876 : (p0 &&& (4 : Int32)) = 0
  · skip
    have k877 : own_G p e below E0 s₁ (mkF m 26 #[vi p0, vi p1, vi p2, vi p3, vi (0 : Int32), uu, uu] [(.int p3), (.int p2), (.int p1), (.int p0)]) := by
      intro tQ kk
      refine k875 tQ ?_
      refine XS.ifYes X0.here hx rfl (pc0 := 3) (pc' := 10) rfl (hb hby at_3) rfl (own_if_eqY c876) (by decide) (by decide) ?_
      refine XS.iconst X0.here hx rfl (hb hby at_10) ?_
      refine XS.istore X0.here hx rfl (hb hby at_11) rfl (l' := #[vi p0, vi p1, vi p2, vi p3, vi (0 : Int32), uu, uu]) rfl ?_
      refine XS.iload X0.here hx rfl (hb hby at_13) rfl ?_
      show Steps p.tables e below (s₁.setTop (mkF m 15 #[vi p0, vi p1, vi p2, vi p3, vi (0 : Int32), uu, uu] [(.int (0 : Int32))])) tQ
      refine XS.ifYes X0.here hx rfl (pc0 := 15) (pc' := 22) rfl (hb hby at_15) rfl (own_if_eqY (by decide)) (by decide) (by decide) ?_
      refine XS.iloadN X0.here hx rfl (hb hby at_22) rfl ?_
      refine XS.iloadN X0.here hx rfl (hb hby at_23) rfl ?_
      refine XS.iloadN X0.here hx rfl (hb hby at_24) rfl ?_
      show Steps p.tables e below (s₁.setTop (mkF m 25 #[vi p0, vi p1, vi p2, vi p3, vi (0 : Int32), uu, uu] [(.int p2), (.int p1), (.int p0)])) tQ
      refine XS.iloadN X0.here hx rfl (hb hby at_25) rfl ?_
      exact kk
    clear k875
    obtain ⟨_, _, ⟨T878, L879, kc880, nc881⟩, -, X882, S889, G890, ⟨Lc883, hQ884, l885, y886, z887⟩, st888⟩ := callSS X0 hx (y := mn21) hown (mvT hZ (tw0 hw)) (mvT hZ (tw1 hw)) (mvT hZ (tw2 hw)) (mvT hZ (tw3 hw)) (by decide) (own_backG (G := GrmD Z p0 p1 p2 p3 G1 h0) (W := 0) (rmD l Z a0 hw [] p0 p1 p2 p3 G1 h0 n0 Z0 FS hG) hZ (tw3 hw) (tw2 hw) (by decide) (by decide) (fun vm1 A => A.1) (own_EWt hw) hCH0) (g := (mkF m 26 #[vi p0, vi p1, vi p2, vi p3, vi (0 : Int32), uu, uu] [(.int p3), (.int p2), (.int p1), (.int p0)])) rfl (by rw [hml]; rfl) (argsL := [(.int p0), (.int p1), (.int p2), (.int p3)]) (rest := []) (lenOf pd_23 rfl) rfl (by show 2 * 0 + _ ≤ _; exact Nat.le_of_eq rfl) (hb hby at_26) (fun _ _ => ⟨rfl, e0, (by decide : 0 + 6 ≤ _), (by decide : 0 + 12 ≤ _)⟩)
    dsimp only [Pt.U, Pt.locs, Pt.cells, Pt.slots] at X882 l885 y886 z887 st888 hQ884 S889 G890
    subst y886 z887
    obtain ⟨X891, S892, hZ, hown⟩ := rebS S0 (Nat.le_trans LE0 (Nat.le_of_eq (congrArg Array.size e0.symm))) X882 S889 G890 hZ hown
    clear X882 S889 G890
    obtain ⟨r896, rfl, N893, K897, nw898⟩ := hQ884
    have N899 : Fr n0 L879 := by rw [l885]; exact Fr.app N0 N893
    clear l885 N893
    have ge900 : n0 ≤ r896 := Nat.le_trans Z0 nw898
    have Z901 : n0 ≤ T878.heap.size := Nat.le_trans Z0 K897.1
    have F902 : Old Z n0 T878.heap := O1.keep K897 all0
    clear O1
    have F903 : own_Le T878.heap.size T878.heap := Nat.le_refl _
    have k904 : own_G p e below E0 T878 (mkF m 29 #[vi p0, vi p1, vi p2, vi p3, vi (0 : Int32), uu, uu] [(.ref r896)]) := fun tQ kk => k877 tQ (st888.trans kk)
    clear k877 st888
    have k905 : own_G p e below E0 T878 (mkF m 33 #[vi p0, vi p1, vi p2, vi p3, vi (0 : Int32), vr r896, uu] [(.ref r896)]) := by
      intro tQ kk
      refine k904 tQ ?_
      refine XS.astore X891.here hx rfl (hb hby at_29) rfl rfl (l' := #[vi p0, vi p1, vi p2, vi p3, vi (0 : Int32), vr r896, uu]) rfl ?_
      refine XS.aload X891.here hx rfl (hb hby at_31) rfl rfl ?_
      exact kk
    clear k904
    obtain ⟨_, _, ⟨T906, L907, kc908, nc909⟩, -, X910, ⟨Lc911, hQ912, l913, y914, z915⟩, st916⟩ := Jvm.LawKit.callS X891 hx (y := mn11) hown (mvT hZ (tw26 hw)) (mvT hZ (tw27 hw)) (mvT hZ (tw28 hw)) (mvT hZ (tw29 hw)) (by decide) (backOf (W := 0) (rmB l Z a0 hw [] (.ref r896) uS sS T878.heap n0 Z901 F902 rfl oU hu oS hs) hZ (tw29 hw) (tw28 hw) (by decide) (by decide)) (g := (mkF m 33 #[vi p0, vi p1, vi p2, vi p3, vi (0 : Int32), vr r896, uu] [(.ref r896)])) rfl (by rw [hml]; rfl) (argsL := [(.ref r896)]) (rest := []) (lenOf pd_24 rfl) rfl (by show 2 * 0 + _ ≤ _; exact Nat.le_of_eq rfl) (hb hby at_33) (fun _ _ => ⟨rfl, rfl, (by decide : 6 + 1 ≤ _), (by decide : 12 + 7 ≤ _)⟩)
    dsimp only [Pt.U, Pt.locs, Pt.cells, Pt.slots] at X910 l913 y914 z915 st916 hQ912
    subst y914 z915
    obtain ⟨r920, rfl, N917, K921, g922, g923, g924, g925, g926, nw927⟩ := hQ912
    have N928 : Fr n0 L907 := by rw [l913]; exact Fr.app N899 N917
    clear l913 N917
    have ge929 : n0 ≤ r920 := Nat.le_trans Z901 nw927
    have Z930 : n0 ≤ T906.heap.size := Nat.le_trans Z901 K921.1
    clear Z901
    have F931 : Old Z n0 T906.heap := F902.keep K921 all0
    clear F902
    have F932 : own_Le T878.heap.size T906.heap := F903.keep K921
    clear F903
    have k933 : own_G p e below E0 T906 (mkF m 36 #[vi p0, vi p1, vi p2, vi p3, vi (0 : Int32), vr r896, uu] [(.ref r920)]) := fun tQ kk => k905 tQ (st916 _ kk)
    clear k905 st916
    have k934 : own_G p e below E0 T906 (mkF m 47 #[vi p0, vi p1, vi p2, vi p3, vi (0 : Int32), vr r896, vr r920] [(.ref r920)]) := by
      intro tQ kk
      refine k933 tQ ?_
      refine XS.astore X910.here hx rfl (hb hby at_36) rfl rfl (l' := #[vi p0, vi p1, vi p2, vi p3, vi (0 : Int32), vr r896, vr r920]) rfl ?_
      refine XS.aload X910.here hx rfl (hb hby at_38) rfl rfl ?_
      refine XT.ifnonnullYes X910.here hx rfl (pc0 := 40) (pc' := 45) rfl (hb hby at_40) rfl (by decide) (by decide) ?_
      refine XS.aload X910.here hx rfl (hb hby at_45) rfl rfl ?_
      exact kk
    clear k933
    obtain ⟨cq946, kq947, qa948, qb949, qc950⟩ := isOf hZ rfl g922
    obtain ⟨_, _, ⟨T935, L936, kc937, nc938⟩, -, X939, ⟨Lc940, hQ941, l942, y943, z944⟩, st945⟩ := X910.virtualBack hx (y := mn13) (z := mn13) hown (mvT hZ (tw65 hw)) (mvT hZ (tw66 hw)) (notFace_of_selects (args := #[]) (mvT hZ (tw68 hw))) (mvT hZ (tw68 hw)) (mvT hZ (tw67 hw)) (by decide) (backOf (W := 0) (rmS l Z a0 hw [] r920 T906.heap n0 Z930 g925) hZ (tw69 hw) (tw28 hw) (by decide) (by decide)) qa948 qc950 (g := (mkF m 47 #[vi p0, vi p1, vi p2, vi p3, vi (0 : Int32), vr r896, vr r920] [(.ref r920)])) rfl (by rw [hml]; rfl) (Steps.refl _) (argsL := []) (rest := []) (lenOf pd_25 rfl) rfl (by show 2 * 0 + _ ≤ _; exact Nat.le_of_eq rfl) (hb hby at_47) (fun _ _ => ⟨rfl, rfl, (by decide : 7 + 0 ≤ _), (by decide : 19 + 0 ≤ _)⟩)
    dsimp only [Pt.U, Pt.locs, Pt.cells, Pt.slots] at X939 l942 y943 z944 st945 hQ941
    subst y943 z944
    obtain ⟨rfl, N951, e952⟩ := hQ941
    have N954 : Fr n0 L936 := by rw [l942]; exact Fr.app N928 N951
    clear l942 N951
    have k955 : own_G p e below E0 T935 (mkF m 50 #[vi p0, vi p1, vi p2, vi p3, vi (0 : Int32), vr r896, vr r920] [(.int (400 : Int32))]) := fun tQ kk => k934 tQ (st945.trans kk)
    clear k934 st945
    have k956 : own_G p e below E0 T935 (mkF m 58 #[vi p0, vi p1, vi p2, vi p3, vi (0 : Int32), vr r896, vr r920] [(.ref r920)]) := by
      intro tQ kk
      refine k955 tQ ?_
      refine XS.sipush X939.here hx rfl (hb hby at_50) ?_
      refine XS.icmpNo X939.here hx rfl (hb hby at_53) rfl (own_ic_neN (by decide)) ?_
      refine XS.aload X939.here hx rfl (hb hby at_56) rfl rfl ?_
      exact kk
    clear k955
    obtain ⟨cq968, kq969, qa970, qb971, qc972⟩ := isOf hZ e952 g922
    obtain ⟨_, _, ⟨T957, L958, kc959, nc960⟩, -, X961, ⟨Lc962, hQ963, l964, y965, z966⟩, st967⟩ := X939.virtualBackUp hx (x := mn27) (y := mn14) (owner := "java/lang/Throwable") hown (mvT hZ (tw70 hw)) (mvT hZ (tw71 hw)) (mvT hZ (tw72 hw)) (by decide) (mvT hZ (tw74 hw)) (mvT hZ (tw73 hw)) (backOf (W := 0) (rmG l Z a0 hw [] r920 (.ref r896) T906.heap n0 Z930 g924 rfl) hZ (tw75 hw) (tw50 hw) (by decide) (by decide)) qa970 qc972 (g := (mkF m 58 #[vi p0, vi p1, vi p2, vi p3, vi (0 : Int32), vr r896, vr r920] [(.ref r920)])) rfl (by rw [hml]; rfl) (Steps.refl _) (argsL := []) (rest := []) (lenOf pd_26 rfl) rfl (by show 2 * 0 + _ ≤ _; exact Nat.le_of_eq rfl) (hb hby at_58) (fun _ _ => ⟨rfl, e952, (by decide : 7 + 0 ≤ _), (by decide : 19 + 0 ≤ _)⟩)
    dsimp only [Pt.U, Pt.locs, Pt.cells, Pt.slots] at X961 l964 y965 z966 st967 hQ963
    subst y965 z966
    obtain ⟨rfl, N973, e974⟩ := hQ963
    have N976 : Fr n0 L958 := by rw [l964]; exact Fr.app N954 N973
    clear l964 N973
    have k977 : own_G p e below E0 T957 (mkF m 61 #[vi p0, vi p1, vi p2, vi p3, vi (0 : Int32), vr r896, vr r920] [(.ref r896)]) := fun tQ kk => k956 tQ (st967.trans kk)
    clear k956 st967
    have k978 : own_G p e below E0 T957 (mkF m 63 #[vi p0, vi p1, vi p2, vi p3, vi (0 : Int32), vr r896, vr r920] [(.ref r896), (.ref r896)]) := by
      intro tQ kk
      refine k977 tQ ?_
      refine XS.aload X961.here hx rfl (hb hby at_61) rfl rfl ?_
      exact kk
    clear k977
    have k979 : own_G p e below E0 T957 (mkF m 68 #[vi p0, vi p1, vi p2, vi p3, vi (0 : Int32), vr r896, vr r920] [(.ref r920)]) := by
      intro tQ kk
      refine k978 tQ ?_
      refine XT.acmpNo X961.here hx rfl (hb hby at_63) rfl rfl rfl (own_ar_ne_N rfl) ?_
      refine XS.aload X961.here hx rfl (hb hby at_66) rfl rfl ?_
      exact kk
    clear k978
    obtain ⟨cq980, kq981, qa982, qb983, qc984⟩ := isOf hZ e974 g922
    obtain ⟨_, _, ⟨T985, L986, kc987, nc988⟩, -, X989, ⟨rfl, hh990, l991, y992, z993⟩, st994⟩ := X961.virtualBackUp hx (x := mn28) (y := RoadKit.gcN) (owner := "java/lang/Throwable") hown (mvT hZ (tw76 hw)) (mvT hZ (tw77 hw)) (mvT hZ (tw78 hw)) (by decide) (mvT hZ (tw80 hw)) (mvT hZ (tw79 hw)) (gcBackPure (rm := { frames := 0, cells := 0, slots := 0, locals := 0 }) (W := 0) (c0 := .null) hZ (tw81 hw) (tw79 hw) (tw50 hw) (tw53 hw) g926 g923 rfl (by decide) (by decide)) qa982 qc984 (g := (mkF m 68 #[vi p0, vi p1, vi p2, vi p3, vi (0 : Int32), vr r896, vr r920] [(.ref r920)])) rfl (by rw [hml]; rfl) (Steps.refl _) (argsL := []) (rest := []) (lenOf pd_29 rfl) rfl (by show 2 * 0 + _ ≤ _; exact Nat.le_of_eq rfl) (hb hby at_68) (fun _ _ => ⟨rfl, e974, (by decide : 7 + 0 ≤ _), (by decide : 19 + 0 ≤ _)⟩)
    dsimp only [Pt.U, Pt.locs, Pt.cells, Pt.slots] at X989 hh990 l991 y992 z993 st994
    subst y992 z993
    rw [gcv_null] at st994
    have N995 : Fr n0 L986 := by rw [l991]; exact N976
    have k996 : own_G p e below E0 T985 (mkF m 71 #[vi p0, vi p1, vi p2, vi p3, vi (0 : Int32), vr r896, vr r920] [.null]) := fun tQ kk => k979 tQ (st994.trans kk)
    clear k979 st994
    have k997 : own_G p e below E0 T985 (mkF m 79 #[vi p0, vi p1, vi p2, vi p3, vi (0 : Int32), vr r896, vr r920] [(.int (1 : Int32))]) := by
      intro tQ kk
      refine k996 tQ ?_
      refine XT.ifnonnullNo X989.here hx rfl (hb hby at_71) rfl ?_
      refine XS.iconst X989.here hx rfl (hb hby at_74) ?_
      refine XS.goto X989.here hx rfl (pc0 := 75) (pc' := 79) rfl (hb hby at_75) (by decide) (by decide) ?_
      exact kk
    clear k996
    obtain ⟨fs, hr, hrun, hended, hRW⟩ := X989.leaveW S892 (Nat.le_trans F932 (Nat.le_of_eq (congrArg Array.size hh990.symm))) (v := some (.int (1 : Int32))) (fun h => by rw [Bd.returns] at h; cases h)
    have hrun0 := k997 _ (retOut X989 hx Bd.returns (t := .boolean) rfl (Or.inl ⟨rfl, Or.inr (Or.inl rfl), _, rfl⟩) (hb hby at_79) hr)
    subst hE0
    refine ⟨_, _, hrun0, hrun, hended, _, _, rfl, ?_, ⟨_, rfl⟩, hRW.2.1, hRW.2.2.1, hRW.2.2.2.mono (by decide) (by decide)⟩
    show Qrm0 Z p0 p1 p2 p3 G1 uS sS h0 n0 _ T985.heap _
    rw [hh990]
    exact ⟨rfl, N995⟩
  · skip
    have k998 : own_G p e below E0 s₁ (mkF m 33 #[vi p0, vi p1, vi p2, vi p3, vi (1 : Int32), .val .null, uu] [.null]) := by
      intro tQ kk
      refine k875 tQ ?_
      refine XS.ifNo X0.here hx rfl (hb hby at_3) rfl (own_if_eqN c876) ?_
      refine XS.iconst X0.here hx rfl (hb hby at_6) ?_
      refine XS.goto X0.here hx rfl (pc0 := 7) (pc' := 11) rfl (hb hby at_7) (by decide) (by decide) ?_
      refine XS.istore X0.here hx rfl (hb hby at_11) rfl (l' := #[vi p0, vi p1, vi p2, vi p3, vi (1 : Int32), uu, uu]) rfl ?_
      show Steps p.tables e below (s₁.setTop (mkF m 13 #[vi p0, vi p1, vi p2, vi p3, vi (1 : Int32), uu, uu] [])) tQ
      refine XS.iload X0.here hx rfl (hb hby at_13) rfl ?_
      refine XS.ifNo X0.here hx rfl (hb hby at_15) rfl (own_if_eqN (by decide)) ?_
      refine XS.aconstNull X0.here hx rfl (hb hby at_18) ?_
      refine XS.goto X0.here hx rfl (pc0 := 19) (pc' := 29) rfl (hb hby at_19) (by decide) (by decide) ?_
      show Steps p.tables e below (s₁.setTop (mkF m 29 #[vi p0, vi p1, vi p2, vi p3, vi (1 : Int32), uu, uu] [.null])) tQ
      refine XS.astore X0.here hx rfl (hb hby at_29) rfl rfl (l' := #[vi p0, vi p1, vi p2, vi p3, vi (1 : Int32), .val .null, uu]) rfl ?_
      refine XS.aload X0.here hx rfl (hb hby at_31) rfl rfl ?_
      exact kk
    clear k875
    obtain ⟨_, _, ⟨T999, L1000, kc1001, nc1002⟩, -, X1003, ⟨Lc1004, hQ1005, l1006, y1007, z1008⟩, st1009⟩ := Jvm.LawKit.callS X0 hx (y := mn11) hown (mvT hZ (tw26 hw)) (mvT hZ (tw27 hw)) (mvT hZ (tw28 hw)) (mvT hZ (tw29 hw)) (by decide) (backOf (W := 0) (rmB l Z a0 hw [] .null uS sS h0 n0 Z0 O1 rfl oU hu oS hs) hZ (tw29 hw) (tw28 hw) (by decide) (by decide)) (g := (mkF m 33 #[vi p0, vi p1, vi p2, vi p3, vi (1 : Int32), .val .null, uu] [.null])) rfl (by rw [hml]; rfl) (argsL := [.null]) (rest := []) (lenOf pd_24 rfl) rfl (by show 2 * 0 + _ ≤ _; exact Nat.le_of_eq rfl) (hb hby at_33) (fun _ _ => ⟨rfl, e0, (by decide : 0 + 1 ≤ _), (by decide : 0 + 7 ≤ _)⟩)
    dsimp only [Pt.U, Pt.locs, Pt.cells, Pt.slots] at X1003 l1006 y1007 z1008 st1009 hQ1005
    subst y1007 z1008
    obtain ⟨r1013, rfl, N1010, K1014, g1015, g1016, g1017, g1018, g1019, nw1020⟩ := hQ1005
    have N1021 : Fr n0 L1000 := by rw [l1006]; exact Fr.app N0 N1010
    clear l1006 N1010
    have ge1022 : n0 ≤ r1013 := Nat.le_trans Z0 nw1020
    have Z1023 : n0 ≤ T999.heap.size := Nat.le_trans Z0 K1014.1
    have CH1024 := CHv.keep K1014 sf0 hCH0
    have F1025 : Old Z n0 T999.heap := O1.keep K1014 all0
    clear O1
    have F1026 : own_Le 0 T999.heap := LE0.keep K1014
    have k1027 : own_G p e below E0 T999 (mkF m 36 #[vi p0, vi p1, vi p2, vi p3, vi (1 : Int32), .val .null, uu] [(.ref r1013)]) := fun tQ kk => k998 tQ (st1009 _ kk)
    clear k998 st1009
    have k1028 : own_G p e below E0 T999 (mkF m 47 #[vi p0, vi p1, vi p2, vi p3, vi (1 : Int32), .val .null, vr r1013] [(.ref r1013)]) := by
      intro tQ kk
      refine k1027 tQ ?_
      refine XS.astore X1003.here hx rfl (hb hby at_36) rfl rfl (l' := #[vi p0, vi p1, vi p2, vi p3, vi (1 : Int32), .val .null, vr r1013]) rfl ?_
      refine XS.aload X1003.here hx rfl (hb hby at_38) rfl rfl ?_
      refine XT.ifnonnullYes X1003.here hx rfl (pc0 := 40) (pc' := 45) rfl (hb hby at_40) rfl (by decide) (by decide) ?_
      refine XS.aload X1003.here hx rfl (hb hby at_45) rfl rfl ?_
      exact kk
    clear k1027
    obtain ⟨cq1040, kq1041, qa1042, qb1043, qc1044⟩ := isOf hZ rfl g1015
    obtain ⟨_, _, ⟨T1029, L1030, kc1031, nc1032⟩, -, X1033, ⟨Lc1034, hQ1035, l1036, y1037, z1038⟩, st1039⟩ := X1003.virtualBack hx (y := mn13) (z := mn13) hown (mvT hZ (tw65 hw)) (mvT hZ (tw66 hw)) (notFace_of_selects (args := #[]) (mvT hZ (tw68 hw))) (mvT hZ (tw68 hw)) (mvT hZ (tw67 hw)) (by decide) (backOf (W := 0) (rmS l Z a0 hw [] r1013 T999.heap n0 Z1023 g1018) hZ (tw69 hw) (tw28 hw) (by decide) (by decide)) qa1042 qc1044 (g := (mkF m 47 #[vi p0, vi p1, vi p2, vi p3, vi (1 : Int32), .val .null, vr r1013] [(.ref r1013)])) rfl (by rw [hml]; rfl) (Steps.refl _) (argsL := []) (rest := []) (lenOf pd_25 rfl) rfl (by show 2 * 0 + _ ≤ _; exact Nat.le_of_eq rfl) (hb hby at_47) (fun _ _ => ⟨rfl, rfl, (by decide : 1 + 0 ≤ _), (by decide : 7 + 0 ≤ _)⟩)
    dsimp only [Pt.U, Pt.locs, Pt.cells, Pt.slots] at X1033 l1036 y1037 z1038 st1039 hQ1035
    subst y1037 z1038
    obtain ⟨rfl, N1045, e1046⟩ := hQ1035
    have N1048 : Fr n0 L1030 := by rw [l1036]; exact Fr.app N1021 N1045
    clear l1036 N1045
    have k1049 : own_G p e below E0 T1029 (mkF m 50 #[vi p0, vi p1, vi p2, vi p3, vi (1 : Int32), .val .null, vr r1013] [(.int (400 : Int32))]) := fun tQ kk => k1028 tQ (st1039.trans kk)
    clear k1028 st1039
    have k1050 : own_G p e below E0 T1029 (mkF m 58 #[vi p0, vi p1, vi p2, vi p3, vi (1 : Int32), .val .null, vr r1013] [(.ref r1013)]) := by
      intro tQ kk
      refine k1049 tQ ?_
      refine XS.sipush X1033.here hx rfl (hb hby at_50) ?_
      refine XS.icmpNo X1033.here hx rfl (hb hby at_53) rfl (own_ic_neN (by decide)) ?_
      refine XS.aload X1033.here hx rfl (hb hby at_56) rfl rfl ?_
      exact kk
    clear k1049
    obtain ⟨cq1062, kq1063, qa1064, qb1065, qc1066⟩ := isOf hZ e1046 g1015
    obtain ⟨_, _, ⟨T1051, L1052, kc1053, nc1054⟩, -, X1055, ⟨Lc1056, hQ1057, l1058, y1059, z1060⟩, st1061⟩ := X1033.virtualBackUp hx (x := mn27) (y := mn14) (owner := "java/lang/Throwable") hown (mvT hZ (tw70 hw)) (mvT hZ (tw71 hw)) (mvT hZ (tw72 hw)) (by decide) (mvT hZ (tw74 hw)) (mvT hZ (tw73 hw)) (backOf (W := 0) (rmG l Z a0 hw [] r1013 .null T999.heap n0 Z1023 g1017 rfl) hZ (tw75 hw) (tw50 hw) (by decide) (by decide)) qa1064 qc1066 (g := (mkF m 58 #[vi p0, vi p1, vi p2, vi p3, vi (1 : Int32), .val .null, vr r1013] [(.ref r1013)])) rfl (by rw [hml]; rfl) (Steps.refl _) (argsL := []) (rest := []) (lenOf pd_26 rfl) rfl (by show 2 * 0 + _ ≤ _; exact Nat.le_of_eq rfl) (hb hby at_58) (fun _ _ => ⟨rfl, e1046, (by decide : 1 + 0 ≤ _), (by decide : 7 + 0 ≤ _)⟩)
    dsimp only [Pt.U, Pt.locs, Pt.cells, Pt.slots] at X1055 l1058 y1059 z1060 st1061 hQ1057
    subst y1059 z1060
    obtain ⟨rfl, N1067, e1068⟩ := hQ1057
    have N1070 : Fr n0 L1052 := by rw [l1058]; exact Fr.app N1048 N1067
    clear l1058 N1067
    have k1071 : own_G p e below E0 T1051 (mkF m 61 #[vi p0, vi p1, vi p2, vi p3, vi (1 : Int32), .val .null, vr r1013] [.null]) := fun tQ kk => k1050 tQ (st1061.trans kk)
    clear k1050 st1061
    have k1072 : own_G p e below E0 T1051 (mkF m 63 #[vi p0, vi p1, vi p2, vi p3, vi (1 : Int32), .val .null, vr r1013] [.null, .null]) := by
      intro tQ kk
      refine k1071 tQ ?_
      refine XS.aload X1055.here hx rfl (hb hby at_61) rfl rfl ?_
      exact kk
    clear k1071
    have k1073 : own_G p e below E0 T1051 (mkF m 68 #[vi p0, vi p1, vi p2, vi p3, vi (1 : Int32), .val .null, vr r1013] [(.ref r1013)]) := by
      intro tQ kk
      refine k1072 tQ ?_
      refine XT.acmpNo X1055.here hx rfl (hb hby at_63) rfl rfl rfl (own_ac_ne_N rfl) ?_
      refine XS.aload X1055.here hx rfl (hb hby at_66) rfl rfl ?_
      exact kk
    clear k1072
    obtain ⟨cq1074, kq1075, qa1076, qb1077, qc1078⟩ := isOf hZ e1068 g1015
    obtain ⟨_, _, ⟨T1079, L1080, kc1081, nc1082⟩, -, X1083, ⟨rfl, hh1084, l1085, y1086, z1087⟩, st1088⟩ := X1055.virtualBackUp hx (x := mn28) (y := RoadKit.gcN) (owner := "java/lang/Throwable") hown (mvT hZ (tw76 hw)) (mvT hZ (tw77 hw)) (mvT hZ (tw78 hw)) (by decide) (mvT hZ (tw80 hw)) (mvT hZ (tw79 hw)) (gcBackPure (rm := { frames := 0, cells := 0, slots := 0, locals := 0 }) (W := 0) (c0 := .null) hZ (tw81 hw) (tw79 hw) (tw50 hw) (tw53 hw) g1019 g1016 rfl (by decide) (by decide)) qa1076 qc1078 (g := (mkF m 68 #[vi p0, vi p1, vi p2, vi p3, vi (1 : Int32), .val .null, vr r1013] [(.ref r1013)])) rfl (by rw [hml]; rfl) (Steps.refl _) (argsL := []) (rest := []) (lenOf pd_29 rfl) rfl (by show 2 * 0 + _ ≤ _; exact Nat.le_of_eq rfl) (hb hby at_68) (fun _ _ => ⟨rfl, e1068, (by decide : 1 + 0 ≤ _), (by decide : 7 + 0 ≤ _)⟩)
    dsimp only [Pt.U, Pt.locs, Pt.cells, Pt.slots] at X1083 hh1084 l1085 y1086 z1087 st1088
    subst y1086 z1087
    rw [gcv_null] at st1088
    have N1089 : Fr n0 L1080 := by rw [l1085]; exact N1070
    have k1090 : own_G p e below E0 T1079 (mkF m 71 #[vi p0, vi p1, vi p2, vi p3, vi (1 : Int32), .val .null, vr r1013] [.null]) := fun tQ kk => k1073 tQ (st1088.trans kk)
    clear k1073 st1088
    have k1091 : own_G p e below E0 T1079 (mkF m 79 #[vi p0, vi p1, vi p2, vi p3, vi (1 : Int32), .val .null, vr r1013] [(.int (1 : Int32))]) := by
      intro tQ kk
      refine k1090 tQ ?_
      refine XT.ifnonnullNo X1083.here hx rfl (hb hby at_71) rfl ?_
      refine XS.iconst X1083.here hx rfl (hb hby at_74) ?_
      refine XS.goto X1083.here hx rfl (pc0 := 75) (pc' := 79) rfl (hb hby at_75) (by decide) (by decide) ?_
      exact kk
    clear k1090
    obtain ⟨fs, hr, hrun, hended, hRW⟩ := X1083.leaveW S0 (Nat.le_trans F1026 (Nat.le_of_eq (congrArg Array.size hh1084.symm))) (v := some (.int (1 : Int32))) (fun h => by rw [Bd.returns] at h; cases h)
    have hrun0 := k1091 _ (retOut X1083 hx Bd.returns (t := .boolean) rfl (Or.inl ⟨rfl, Or.inr (Or.inl rfl), _, rfl⟩) (hb hby at_79) hr)
    subst hE0
    refine ⟨_, _, hrun0, hrun, hended, _, _, rfl, ?_, ⟨_, rfl⟩, hRW.2.1, hRW.2.2.1, hRW.2.2.2.mono (by decide) (by decide)⟩
    show Qrm0 Z p0 p1 p2 p3 G1 uS sS h0 n0 _ T1079.heap _
    rw [hh1084]
    exact ⟨rfl, N1089⟩
set_option maxRecDepth 65536 in
set_option maxHeartbeats 40000000 in
theorem comes_1 {Post : Tables → Env → Array Value → State → Outcome → State → Prop} (hpost : ∀ tb e args s v u, (limb_1_1.after args s (.returned v) u = true ∧ limb_1_2.after args s (.returned v) u = true ∧ True) → ReturnedEndW s (.returned v) u (Jvm.fieldLocs frame_1_writes args s ++ Jvm.arrayLocs frame_1_arrays args s ++ Jvm.staticLocs frame_1_statics s) 24 1152 → Post tb e args s (.returned v) u) :
    ArmFor flags0 classFile x code maxLocals ret World_1 tables_1 room_1 Calls_1 rest_1 Pre_1 Post := by
  intro l hfl _ _ p e ha hc hk s m args below hf hA hF happ hP
  obtain ⟨hcalls, hrest, hpre⟩ := hP
  obtain ⟨-, -, -, hnamed, -, -, -, hat⟩ := (Spec.applies_iff hf).mp happ
  obtain ⟨hg, hn⟩ := and_e (Cond.before_iff.mp (show (Jvm.Cond.and given_1 narrow_1).before args s = true from hpre))
  obtain ⟨hct, hr0⟩ := and_e hg
  obtain ⟨ha0, hr1⟩ := and_e hr0
  obtain ⟨ha1, hr2⟩ := and_e hr1
  obtain ⟨ha2, hr3⟩ := and_e hr2
  obtain ⟨w0, w1, w2, w3, rfl⟩ : ∃ w0 w1 w2 w3 : Value, args = #[w0, w1, w2, w3] := by
    have hs : args.size = 4 := by simpa [Cond.value, given_1] using hct
    obtain ⟨L⟩ := args
    match L, hs with
    | [w0, w1, w2, w3], _ => exact ⟨w0, w1, w2, w3, rfl⟩
  have hw := fun d (hd : d ∈ tables_1) => atoms_spec (ws := Jvm.Cond.code x code maxLocals ret :: tables_1) hat d (List.mem_cons_of_mem _ hd)
  obtain ⟨hsets, hown0⟩ := atoms_of _ (rest_1_c_eq ▸ (show rest_1_c.before _ s = true from hrest))
  have hfit : Fit s := fun {y c} hc i hi => by
    obtain ⟨ha, rfl⟩ := Array.getElem?_eq_some_iff.mp hc
    have q := List.all_eq_true.mp ((Array.all_eq_true_iff_forall_mem.mp hF) _ (Array.getElem_mem ha)) i (List.mem_range.mpr hi)
    simpa [Array.getElem?_eq_getElem hi] using q
  obtain ⟨i0, ev0⟩ := is_v ha0
  obtain rfl : w0 = (.int i0) := Option.some.inj ev0
  obtain ⟨i1, ev1⟩ := is_v ha1
  obtain rfl : w1 = (.int i1) := Option.some.inj ev1
  obtain ⟨i2, ev2⟩ := is_v ha2
  obtain rfl : w2 = (.int i2) := Option.some.inj ev2
  obtain ⟨i3, ev3⟩ := is_v hr3
  obtain rfl : w3 = (.int i3) := Option.some.inj ev3
  have nC := not_v (Cond.before_iff.mp (hsets _ (List.mem_of_getElem? (i := 22) rfl)))
  obtain ⟨iC, eC⟩ := is_v (Cond.before_iff.mp (hsets _ (List.mem_of_getElem? (i := 21) rfl)))
  have SC : Sta s s.heap "java/lang/String" "COMPACT_STRINGS" "Z" (.int iC) := Sta.start eC (Or.inl (hsets _ (List.mem_of_getElem? (i := 20) rfl)))
  have cC : ¬ (iC = (0 : Int32)) := gotF (Cond.eq_ints eC (Term.int_eval (0))) nC
  obtain ⟨vU, eU, hU⟩ := isR_v (Cond.before_iff.mp (hsets _ (List.mem_of_getElem? (i := 7) rfl)))
  have SU : Sta s s.heap "java/lang/Throwable" "UNASSIGNED_STACK" "[Ljava/lang/StackTraceElement;" vU := Sta.start eU (Or.inl (hsets _ (List.mem_of_getElem? (i := 6) rfl)))
  obtain ⟨vS, eS, hS⟩ := isR_v (Cond.before_iff.mp (hsets _ (List.mem_of_getElem? (i := 12) rfl)))
  have SS : Sta s s.heap "java/lang/Throwable" "SUPPRESSED_SENTINEL" "Ljava/util/List;" vS := Sta.start eS (Or.inl (hsets _ (List.mem_of_getElem? (i := 11) rfl)))
  have hCHs : CHv s consts_1 s.vm s.heap := CHv.start (own_EWt hw) (fun p hp => hcalls.1 p hp) (hsets _ (List.mem_of_getElem? (i := 22) rfl)) (hw _ (List.mem_of_getElem? (i := 19) rfl)) (hw _ (List.mem_of_getElem? (i := 5) rfl))
  obtain ⟨n, o, h1, h2, h3, _, L, rfl, ⟨rfl, N⟩, hq⟩ := rm0 l s _ hw tables_1 i0 i1 i2 i3 iC vU vS s.heap s.heap.size (Nat.le_refl _) SC (Old.start s) cC SU hU SS hS p e ha hc hk s m _ below hf ((Spec.applies_iff_loose hf).mp happ).1 ⟨rfl, State.Warmed39.refl s, rfl, hCHs⟩ trivial
  refine ⟨n, _, h1, h2, h3, hpost _ _ _ _ _ _ ⟨Cond.after_iff.mpr rfl, Cond.after_iff.mpr (eq_i res_at (Term.int_eval (1)) rfl), trivial⟩ ⟨hq.1, hq.2.1, hq.2.2.1, (hq.2.2.2.sift fun y hy => Or.inr (N y hy)).mono (by decide) (by decide)⟩⟩
theorem main_1_1 : Claimed_1_1 := comes_1 fun _ _ _ _ _ _ h hF => ⟨h.1, hF⟩
theorem main_1_2 : Claimed_1_2 := comes_1 fun _ _ _ _ _ _ h hF => ⟨h.2.1, hF⟩
end Jvm.Pilot.@@N@@
namespace Jvm.Pilot.@@N@@
open Jvm Jvm.ClassFile Sem Op Lib Jvm.Free Jvm.Stand Jvm.Pilot.@@N@@.Jvm.D
/-! MADE BY PROGRAM (witnessworld.py) out of the Statement's table words and the real class files: 35 classes; the members and pool entries that the words name. The judged class is class 1, her method 2. -/
namespace start1
open Jvm.ClassFile
def u (s : String) : CpInfo := .utf8 (stringToUtf16 s)
/-- a pool by its gaps: so many unusable entries, then the entry; so many at the end -/
def gap : Nat → List CpInfo → List CpInfo
  | 0, r => r
  | n + 1, r => .unusable :: gap n r
def poolList (es : List (Nat × CpInfo)) (last : Nat) : List CpInfo := es.foldr (fun e r => gap e.1 (e.2 :: r)) (gap last [])
def pool (es : List (Nat × CpInfo)) (last : Nat) : Array CpInfo := ⟨poolList es last⟩
def fileOf (pool : Array CpInfo) (this : Nat) (attrs : Array Attribute := #[]) (ms : Array MethodInfo := #[]) (fl : Nat := 33) (sup : Nat := 0) (ifs : Array Nat := #[]) (fds : Array FieldInfo := #[]) : ClassFile where
  minorVersion := 0
  majorVersion := 65
  constantPool := pool
  accessFlags := fl
  thisClass := this
  superClass := sup
  interfaces := ifs
  fields := fds
  methods := ms
  attributes := attrs
def plain (name : String) (sup : Option ClassId) : Class where
  name := name
  kind := .ordinary
  loader := none
  accessFlags := 33
  super := sup
  interfaces := #[]
  cf := none
  fields := #[]
  methods := #[]
  instanceTypes := #[]
  staticTypes := #[]
  resolved := #[]
  callSites := []
  init := .initialized
  statics := none
  mirror := none

def pool0 : Array CpInfo := pool [(5, u "<init>"), (0, u "()V"), (1, .class_ 10), (1, u "java/lang/Object")] 113

def k0c0 : Code := { maxStack := 0, maxLocals := 1, code := object_method_1_code, exceptionTable := #[], attributes := #[] }
def k0m0 : Method := { name := "<init>", desc := "()V", sig := { parameters := [], returnType := none }, accessFlags := 1, code := some k0c0 }
/-- java/lang/Object -/
def k0 : Class := { plain "java/lang/Object" none with
  accessFlags := 33
  interfaces := #[]
  cf := some (fileOf pool0 8 #[] #[{ accessFlags := 1, nameIndex := 5, descriptorIndex := 6, attributes := #[] }] 33 0 #[] #[])
  fields := #[]
  methods := #[k0m0]
  instanceTypes := #[]
  staticTypes := #[]
  resolved := Array.replicate 124 none
  statics := none }

def pool1 : Array CpInfo := pool [(2, .class_ 4), (1, u "java/lang/Object"), (0, u "<init>"), (0, u "()V"), (0, .class_ 8), (0, u "java/lang/String"), (0, .methodref 7 10), (0, .nameAndType 5 11), (0, u "([C)V"), (0, .methodref 13 14), (0, .class_ 15), (0, .nameAndType 16 17), (0, u "com/example/tokenward/tokenward/ApiExceptionBadRequestPinLaw"), (0, u "draw"), (0, u "(IIII)Ljava/lang/String;"), (0, .methodref 19 20), (0, .class_ 21), (0, .nameAndType 22 23), (0, u "com/example/tokenward/tokenward/ApiException"), (0, u "badRequest"), (0, u "(Ljava/lang/String;)Lcom/example/tokenward/tokenward/ApiException;"), (0, .methodref 19 25), (0, .nameAndType 26 27), (0, u "status"), (0, u "()I"), (0, .methodref 19 29), (0, .nameAndType 30 31), (0, u "getMessage"), (0, u "()Ljava/lang/String;"), (0, .methodref 19 33), (0, .nameAndType 34 35), (0, u "getCause"), (0, u "()Ljava/lang/Throwable;"), (3, u "law"), (0, u "(IIII)Z")] 2

def k1m0 : Method := { name := "<init>", desc := "()V", sig := { parameters := [], returnType := none }, accessFlags := 1, code := none }
def k1c1 : Code := { maxStack := 4, maxLocals := 9, code := method_2_code, exceptionTable := #[], attributes := #[] }
def k1m1 : Method := { name := "draw", desc := "(IIII)Ljava/lang/String;", sig := { parameters := [.int, .int, .int, .int], returnType := some (.object "java/lang/String") }, accessFlags := 10, code := some k1c1 }
def k1c2 : Code := { maxStack := 4, maxLocals := 7, code := code, exceptionTable := #[], attributes := #[] }
def k1m2 : Method := { name := "law", desc := "(IIII)Z", sig := { parameters := [.int, .int, .int, .int], returnType := some .boolean }, accessFlags := 9, code := some k1c2 }
/-- com/example/tokenward/tokenward/ApiExceptionBadRequestPinLaw -/
def k1 : Class := { plain "com/example/tokenward/tokenward/ApiExceptionBadRequestPinLaw" (some 0) with
  accessFlags := 49
  interfaces := #[]
  cf := some (fileOf pool1 13 #[] #[{ accessFlags := 1, nameIndex := 5, descriptorIndex := 6, attributes := #[] }, { accessFlags := 10, nameIndex := 16, descriptorIndex := 17, attributes := #[] }, { accessFlags := 9, nameIndex := 39, descriptorIndex := 40, attributes := #[] }] 49 2 #[] #[])
  fields := #[]
  methods := #[k1m0, k1m1, k1m2]
  instanceTypes := #[]
  staticTypes := #[]
  resolved := Array.replicate 43 none
  statics := none }

def pool2 : Array CpInfo := pool [(1, .class_ 2), (0, u "java/io/Serializable"), (0, .class_ 4), (0, u "java/lang/Object")] 2

/-- java/io/Serializable -/
def k2 : Class := { plain "java/io/Serializable" (some 0) with
  accessFlags := 1537
  interfaces := #[]
  cf := some (fileOf pool2 1 #[] #[] 1537 3 #[] #[])
  fields := #[]
  methods := #[]
  instanceTypes := #[]
  staticTypes := #[]
  resolved := Array.replicate 7 none
  statics := none }

def pool3 : Array CpInfo := pool [(1, .class_ 2), (0, u "java/lang/Comparable"), (0, .class_ 4), (0, u "java/lang/Object")] 7

/-- java/lang/Comparable -/
def k3 : Class := { plain "java/lang/Comparable" (some 0) with
  accessFlags := 1537
  interfaces := #[]
  cf := some (fileOf pool3 1 #[] #[] 1537 3 #[] #[])
  fields := #[]
  methods := #[]
  instanceTypes := #[]
  staticTypes := #[]
  resolved := Array.replicate 12 none
  statics := none }

def pool4 : Array CpInfo := pool [(2, .class_ 4), (1, u "java/lang/CharSequence"), (42, .class_ 48), (0, u "java/lang/CharSequence$1CodePointIterator"), (10, .class_ 60), (0, u "java/lang/CharSequence$1CharIterator"), (5, .class_ 67), (0, u "java/lang/Object")] 63

/-- java/lang/CharSequence -/
def k4 : Class := { plain "java/lang/CharSequence" (some 0) with
  accessFlags := 1537
  interfaces := #[]
  cf := some (fileOf pool4 2 #[.nestMembers #[47, 59]] #[] 1537 66 #[] #[])
  fields := #[]
  methods := #[]
  instanceTypes := #[]
  staticTypes := #[]
  resolved := Array.replicate 131 none
  statics := none }

def pool5 : Array CpInfo := pool [(1, .class_ 2), (0, u "java/lang/constant/Constable"), (0, .class_ 4), (0, u "java/lang/Object")] 6

/-- java/lang/constant/Constable -/
def k5 : Class := { plain "java/lang/constant/Constable" (some 0) with
  accessFlags := 1537
  interfaces := #[]
  cf := some (fileOf pool5 1 #[] #[] 1537 3 #[] #[])
  fields := #[]
  methods := #[]
  instanceTypes := #[]
  staticTypes := #[]
  resolved := Array.replicate 11 none
  statics := none }

def pool6 : Array CpInfo := pool [(1, .class_ 2), (0, u "java/lang/constant/ConstantDesc"), (0, .class_ 4), (0, u "java/lang/Object")] 32

/-- java/lang/constant/ConstantDesc -/
def k6 : Class := { plain "java/lang/constant/ConstantDesc" (some 0) with
  accessFlags := 1537
  interfaces := #[]
  cf := some (fileOf pool6 1 #[] #[] 1537 3 #[] #[])
  fields := #[]
  methods := #[]
  instanceTypes := #[]
  staticTypes := #[]
  resolved := Array.replicate 37 none
  statics := none }

def pool7 : Array CpInfo := pool [(1, .methodref 2 3), (0, .class_ 4), (0, .nameAndType 5 6), (0, u "java/lang/Object"), (0, u "<init>"), (0, u "()V"), (0, .string 8), (0, u ""), (0, .fieldref 10 11), (0, .class_ 12), (0, .nameAndType 13 14), (0, u "java/lang/String"), (0, u "value"), (0, u "[B"), (0, .fieldref 10 16), (0, .nameAndType 17 18), (0, u "coder"), (0, u "B"), (2, u "hash"), (0, u "I"), (2, u "hashIsZero"), (0, u "Z"), (0, .methodref 10 28), (0, .nameAndType 5 29), (0, u "([CIILjava/lang/Void;)V"), (8, .fieldref 10 39), (0, .nameAndType 40 26), (0, u "COMPACT_STRINGS"), (1, .class_ 44), (1, u "java/lang/StringUTF16"), (0, u "compress"), (1, .methodref 42 48), (0, .nameAndType 49 50), (0, u "coderFromArrayLen"), (0, u "([BI)B"), (126, .methodref 42 178), (0, .nameAndType 45 179), (0, u "([CII)[B"), (395, .class_ 576), (0, u "java/lang/CharSequence"), (22, u "CASE_INSENSITIVE_ORDER"), (0, u "Ljava/util/Comparator;"), (409, u "([C)V"), (90, u "serialPersistentFields"), (0, u "[Ljava/io/ObjectStreamField;"), (0, .class_ 1104), (0, u "java/lang/String$CaseInsensitiveComparator"), (1, .class_ 1107), (0, u "java/io/Serializable"), (0, .class_ 1109), (0, u "java/lang/Comparable"), (0, .class_ 1111), (0, u "java/lang/constant/Constable"), (0, .class_ 1113), (0, u "java/lang/constant/ConstantDesc"), (2, u "serialVersionUID"), (0, u "J"), (3, u "REPL"), (0, u "C"), (2, u "LATIN1"), (1, u "UTF16")] 323

def k7m0 : Method := { name := "<init>", desc := "()V", sig := { parameters := [], returnType := none }, accessFlags := 1, code := none }
def k7c1 : Code := { maxStack := 5, maxLocals := 2, code := jdk_42_method_3_code, exceptionTable := #[], attributes := #[] }
def k7m1 : Method := { name := "<init>", desc := "([C)V", sig := { parameters := [(.array .char)], returnType := none }, accessFlags := 1, code := some k7c1 }
def k7c2 : Code := { maxStack := 4, maxLocals := 6, code := jdk_42_method_149_code, exceptionTable := #[], attributes := #[] }
def k7m2 : Method := { name := "<init>", desc := "([CIILjava/lang/Void;)V", sig := { parameters := [(.array .char), .int, .int, (.object "java/lang/Void")], returnType := none }, accessFlags := 2, code := some k7c2 }
/-- java/lang/String -/
def k7 : Class := { plain "java/lang/String" (some 0) with
  accessFlags := 49
  interfaces := #[2, 3, 4, 5, 6]
  cf := some (fileOf pool7 10 #[.nestMembers #[1103]] #[{ accessFlags := 1, nameIndex := 5, descriptorIndex := 6, attributes := #[] }, { accessFlags := 1, nameIndex := 5, descriptorIndex := 1010, attributes := #[] }, { accessFlags := 2, nameIndex := 5, descriptorIndex := 29, attributes := #[] }] 49 2 #[1106, 1108, 575, 1110, 1112] #[{ accessFlags := 18, nameIndex := 13, descriptorIndex := 14, attributes := #[] }, { accessFlags := 18, nameIndex := 17, descriptorIndex := 18, attributes := #[] }, { accessFlags := 2, nameIndex := 21, descriptorIndex := 22, attributes := #[] }, { accessFlags := 2, nameIndex := 25, descriptorIndex := 26, attributes := #[] }, { accessFlags := 26, nameIndex := 1116, descriptorIndex := 1117, attributes := #[] }, { accessFlags := 24, nameIndex := 40, descriptorIndex := 26, attributes := #[] }, { accessFlags := 26, nameIndex := 1101, descriptorIndex := 1102, attributes := #[] }, { accessFlags := 26, nameIndex := 1121, descriptorIndex := 1122, attributes := #[] }, { accessFlags := 25, nameIndex := 599, descriptorIndex := 600, attributes := #[] }, { accessFlags := 24, nameIndex := 1125, descriptorIndex := 18, attributes := #[] }, { accessFlags := 24, nameIndex := 1127, descriptorIndex := 18, attributes := #[] }])
  fields := #[{ name := "value", type := (.array .byte), accessFlags := 18, slot := 0, constantValue := 0 }, { name := "coder", type := .byte, accessFlags := 18, slot := 1, constantValue := 0 }, { name := "hash", type := .int, accessFlags := 2, slot := 2, constantValue := 0 }, { name := "hashIsZero", type := .boolean, accessFlags := 2, slot := 3, constantValue := 0 }, { name := "serialVersionUID", type := .long, accessFlags := 26, slot := 0, constantValue := 0 }, { name := "COMPACT_STRINGS", type := .boolean, accessFlags := 24, slot := 1, constantValue := 0 }, { name := "serialPersistentFields", type := (.array (.object "java/io/ObjectStreamField")), accessFlags := 26, slot := 2, constantValue := 0 }, { name := "REPL", type := .char, accessFlags := 26, slot := 3, constantValue := 0 }, { name := "CASE_INSENSITIVE_ORDER", type := (.object "java/util/Comparator"), accessFlags := 25, slot := 4, constantValue := 0 }, { name := "LATIN1", type := .byte, accessFlags := 24, slot := 5, constantValue := 0 }, { name := "UTF16", type := .byte, accessFlags := 24, slot := 6, constantValue := 0 }]
  methods := #[k7m0, k7m1, k7m2]
  instanceTypes := #[(.array .byte), .byte, .int, .boolean]
  staticTypes := #[.long, .boolean, (.array (.object "java/io/ObjectStreamField")), .char, (.object "java/util/Comparator"), .byte, .byte]
  resolved := Array.replicate 1451 none
  statics := some 0 }

def pool8 : Array CpInfo := pool [(1, .methodref 2 3), (0, .class_ 4), (0, .nameAndType 5 6), (0, u "java/lang/Object"), (0, u "<init>"), (0, u "()V"), (0, .fieldref 8 9), (0, .class_ 10), (0, .nameAndType 11 12), (0, u "java/lang/Throwable"), (0, u "cause"), (0, u "Ljava/lang/Throwable;"), (0, .fieldref 8 14), (0, .nameAndType 15 16), (0, u "UNASSIGNED_STACK"), (0, u "[Ljava/lang/StackTraceElement;"), (0, .fieldref 8 18), (0, .nameAndType 19 16), (0, u "stackTrace"), (0, .fieldref 8 21), (0, .nameAndType 22 23), (0, u "SUPPRESSED_SENTINEL"), (0, u "Ljava/util/List;"), (0, .fieldref 8 25), (0, .nameAndType 26 23), (0, u "suppressedExceptions"), (3, u "()Ljava/lang/Throwable;"), (0, .fieldref 8 32), (0, .nameAndType 33 34), (0, u "detailMessage"), (0, u "Ljava/lang/String;"), (3, u "()Ljava/lang/String;"), (2, u "getMessage"), (51, .class_ 94), (0, u "java/lang/Throwable$WrappedPrintStream"), (6, .class_ 103), (1, u "java/lang/Throwable$PrintStreamOrWriter"), (54, u "getCause"), (6, u "$assertionsDisabled"), (0, u "Z"), (26, .class_ 194), (0, u "java/lang/Throwable$WrappedPrintWriter"), (5, u "backtrace"), (0, u "Ljava/lang/Object;"), (9, u "depth"), (0, u "I"), (56, .class_ 271), (1, u "java/lang/Throwable$SentinelHolder"), (32, u "EMPTY_THROWABLE_ARRAY"), (0, u "[Ljava/lang/Throwable;"), (12, .class_ 319), (0, u "java/io/Serializable"), (0, u "serialVersionUID"), (0, u "J"), (5, u "NULL_CAUSE_MESSAGE"), (0, u "SELF_SUPPRESSION_MESSAGE"), (0, u "CAUSE_CAPTION"), (0, u "SUPPRESSED_CAPTION"), (9, u "(Ljava/lang/String;Ljava/lang/Throwable;ZZ)V")] 63

def k8m0 : Method := { name := "<init>", desc := "()V", sig := { parameters := [], returnType := none }, accessFlags := 1, code := none }
def k8c1 : Code := { maxStack := 2, maxLocals := 5, code := jdk_78_method_5_code, exceptionTable := #[], attributes := #[] }
def k8m1 : Method := { name := "<init>", desc := "(Ljava/lang/String;Ljava/lang/Throwable;ZZ)V", sig := { parameters := [(.object "java/lang/String"), (.object "java/lang/Throwable"), .boolean, .boolean], returnType := none }, accessFlags := 4, code := some k8c1 }
def k8c2 : Code := { maxStack := 1, maxLocals := 1, code := jdk_78_method_6_code, exceptionTable := #[], attributes := #[] }
def k8m2 : Method := { name := "getMessage", desc := "()Ljava/lang/String;", sig := { parameters := [], returnType := some (.object "java/lang/String") }, accessFlags := 1, code := some k8c2 }
def k8c3 : Code := { maxStack := 2, maxLocals := 1, code := ⟨#[0x2a, 0xb4, 0x00, 0x07, 0x2a, 0xa6, 0x00, 0x07, 0x01, 0xa7, 0x00, 0x07, 0x2a, 0xb4, 0x00, 0x07, 0xb0]⟩, exceptionTable := #[], attributes := #[] }
def k8m3 : Method := { name := "getCause", desc := "()Ljava/lang/Throwable;", sig := { parameters := [], returnType := some (.object "java/lang/Throwable") }, accessFlags := 33, code := some k8c3 }
/-- java/lang/Throwable -/
def k8 : Class := { plain "java/lang/Throwable" (some 0) with
  accessFlags := 33
  interfaces := #[2]
  cf := some (fileOf pool8 8 #[.nestMembers #[193, 93, 101, 269]] #[{ accessFlags := 1, nameIndex := 5, descriptorIndex := 6, attributes := #[] }, { accessFlags := 4, nameIndex := 5, descriptorIndex := 340, attributes := #[] }, { accessFlags := 1, nameIndex := 41, descriptorIndex := 38, attributes := #[] }, { accessFlags := 33, nameIndex := 158, descriptorIndex := 30, attributes := #[] }] 33 2 #[318] #[{ accessFlags := 26, nameIndex := 320, descriptorIndex := 321, attributes := #[] }, { accessFlags := 130, nameIndex := 200, descriptorIndex := 201, attributes := #[] }, { accessFlags := 2, nameIndex := 33, descriptorIndex := 34, attributes := #[] }, { accessFlags := 26, nameIndex := 15, descriptorIndex := 16, attributes := #[] }, { accessFlags := 2, nameIndex := 11, descriptorIndex := 12, attributes := #[] }, { accessFlags := 2, nameIndex := 19, descriptorIndex := 16, attributes := #[] }, { accessFlags := 130, nameIndex := 211, descriptorIndex := 212, attributes := #[] }, { accessFlags := 26, nameIndex := 22, descriptorIndex := 23, attributes := #[] }, { accessFlags := 2, nameIndex := 26, descriptorIndex := 23, attributes := #[] }, { accessFlags := 26, nameIndex := 327, descriptorIndex := 34, attributes := #[] }, { accessFlags := 26, nameIndex := 328, descriptorIndex := 34, attributes := #[] }, { accessFlags := 26, nameIndex := 329, descriptorIndex := 34, attributes := #[] }, { accessFlags := 26, nameIndex := 330, descriptorIndex := 34, attributes := #[] }, { accessFlags := 26, nameIndex := 304, descriptorIndex := 305, attributes := #[] }, { accessFlags := 4120, nameIndex := 165, descriptorIndex := 166, attributes := #[] }])
  fields := #[{ name := "serialVersionUID", type := .long, accessFlags := 26, slot := 0, constantValue := 0 }, { name := "backtrace", type := (.object "java/lang/Object"), accessFlags := 130, slot := 0, constantValue := 0 }, { name := "detailMessage", type := (.object "java/lang/String"), accessFlags := 2, slot := 1, constantValue := 0 }, { name := "UNASSIGNED_STACK", type := (.array (.object "java/lang/StackTraceElement")), accessFlags := 26, slot := 1, constantValue := 0 }, { name := "cause", type := (.object "java/lang/Throwable"), accessFlags := 2, slot := 2, constantValue := 0 }, { name := "stackTrace", type := (.array (.object "java/lang/StackTraceElement")), accessFlags := 2, slot := 3, constantValue := 0 }, { name := "depth", type := .int, accessFlags := 130, slot := 4, constantValue := 0 }, { name := "SUPPRESSED_SENTINEL", type := (.object "java/util/List"), accessFlags := 26, slot := 2, constantValue := 0 }, { name := "suppressedExceptions", type := (.object "java/util/List"), accessFlags := 2, slot := 5, constantValue := 0 }, { name := "NULL_CAUSE_MESSAGE", type := (.object "java/lang/String"), accessFlags := 26, slot := 3, constantValue := 0 }, { name := "SELF_SUPPRESSION_MESSAGE", type := (.object "java/lang/String"), accessFlags := 26, slot := 4, constantValue := 0 }, { name := "CAUSE_CAPTION", type := (.object "java/lang/String"), accessFlags := 26, slot := 5, constantValue := 0 }, { name := "SUPPRESSED_CAPTION", type := (.object "java/lang/String"), accessFlags := 26, slot := 6, constantValue := 0 }, { name := "EMPTY_THROWABLE_ARRAY", type := (.array (.object "java/lang/Throwable")), accessFlags := 26, slot := 7, constantValue := 0 }, { name := "$assertionsDisabled", type := .boolean, accessFlags := 4120, slot := 8, constantValue := 0 }]
  methods := #[k8m0, k8m1, k8m2, k8m3]
  instanceTypes := #[(.object "java/lang/Object"), (.object "java/lang/String"), (.object "java/lang/Throwable"), (.array (.object "java/lang/StackTraceElement")), .int, (.object "java/util/List")]
  staticTypes := #[.long, (.array (.object "java/lang/StackTraceElement")), (.object "java/util/List"), (.object "java/lang/String"), (.object "java/lang/String"), (.object "java/lang/String"), (.object "java/lang/String"), (.array (.object "java/lang/Throwable")), .boolean]
  resolved := Array.replicate 404 none
  statics := some 1 }

def pool9 : Array CpInfo := pool [(2, .class_ 4), (1, u "java/lang/Throwable"), (0, u "<init>"), (0, u "()V"), (9, .methodref 2 17), (0, .nameAndType 5 18), (0, u "(Ljava/lang/String;Ljava/lang/Throwable;ZZ)V"), (0, .class_ 20), (0, u "java/lang/Exception"), (0, u "serialVersionUID"), (0, u "J")] 17

def k9m0 : Method := { name := "<init>", desc := "()V", sig := { parameters := [], returnType := none }, accessFlags := 1, code := none }
def k9c1 : Code := { maxStack := 5, maxLocals := 5, code := jdk_59_method_5_code, exceptionTable := #[], attributes := #[] }
def k9m1 : Method := { name := "<init>", desc := "(Ljava/lang/String;Ljava/lang/Throwable;ZZ)V", sig := { parameters := [(.object "java/lang/String"), (.object "java/lang/Throwable"), .boolean, .boolean], returnType := none }, accessFlags := 4, code := some k9c1 }
/-- java/lang/Exception -/
def k9 : Class := { plain "java/lang/Exception" (some 8) with
  accessFlags := 33
  interfaces := #[]
  cf := some (fileOf pool9 19 #[] #[{ accessFlags := 1, nameIndex := 5, descriptorIndex := 6, attributes := #[] }, { accessFlags := 4, nameIndex := 5, descriptorIndex := 18, attributes := #[] }] 33 2 #[] #[{ accessFlags := 24, nameIndex := 21, descriptorIndex := 22, attributes := #[] }])
  fields := #[{ name := "serialVersionUID", type := .long, accessFlags := 24, slot := 0, constantValue := 0 }]
  methods := #[k9m0, k9m1]
  instanceTypes := #[(.object "java/lang/Object"), (.object "java/lang/String"), (.object "java/lang/Throwable"), (.array (.object "java/lang/StackTraceElement")), .int, (.object "java/util/List")]
  staticTypes := #[.long]
  resolved := Array.replicate 40 none
  statics := none }

def pool10 : Array CpInfo := pool [(2, .class_ 4), (1, u "java/lang/Exception"), (0, u "<init>"), (0, u "()V"), (9, .methodref 2 17), (0, .nameAndType 5 18), (0, u "(Ljava/lang/String;Ljava/lang/Throwable;ZZ)V"), (0, .class_ 20), (0, u "java/lang/RuntimeException"), (0, u "serialVersionUID"), (0, u "J")] 17

def k10m0 : Method := { name := "<init>", desc := "()V", sig := { parameters := [], returnType := none }, accessFlags := 1, code := none }
def k10c1 : Code := { maxStack := 5, maxLocals := 5, code := jdk_58_method_5_code, exceptionTable := #[], attributes := #[] }
def k10m1 : Method := { name := "<init>", desc := "(Ljava/lang/String;Ljava/lang/Throwable;ZZ)V", sig := { parameters := [(.object "java/lang/String"), (.object "java/lang/Throwable"), .boolean, .boolean], returnType := none }, accessFlags := 4, code := some k10c1 }
/-- java/lang/RuntimeException -/
def k10 : Class := { plain "java/lang/RuntimeException" (some 9) with
  accessFlags := 33
  interfaces := #[]
  cf := some (fileOf pool10 19 #[] #[{ accessFlags := 1, nameIndex := 5, descriptorIndex := 6, attributes := #[] }, { accessFlags := 4, nameIndex := 5, descriptorIndex := 18, attributes := #[] }] 33 2 #[] #[{ accessFlags := 24, nameIndex := 21, descriptorIndex := 22, attributes := #[] }])
  fields := #[{ name := "serialVersionUID", type := .long, accessFlags := 24, slot := 0, constantValue := 0 }]
  methods := #[k10m0, k10m1]
  instanceTypes := #[(.object "java/lang/Object"), (.object "java/lang/String"), (.object "java/lang/Throwable"), (.array (.object "java/lang/StackTraceElement")), .int, (.object "java/util/List")]
  staticTypes := #[.long]
  resolved := Array.replicate 40 none
  statics := none }

def pool11 : Array CpInfo := pool [(1, .methodref 2 3), (0, .class_ 4), (0, .nameAndType 5 6), (0, u "java/lang/RuntimeException"), (0, u "<init>"), (0, u "(Ljava/lang/String;Ljava/lang/Throwable;ZZ)V"), (0, .fieldref 8 9), (0, .class_ 10), (0, .nameAndType 11 12), (0, u "com/example/tokenward/tokenward/ApiException"), (0, u "status"), (0, u "I"), (0, .methodref 8 14), (0, .nameAndType 5 15), (0, u "(ILjava/lang/String;)V"), (4, u "serialVersionUID"), (0, u "J"), (3, u "BAD_REQUEST"), (1, u "FORBIDDEN"), (1, u "NOT_FOUND"), (3, u "badRequest"), (0, u "(Ljava/lang/String;)Lcom/example/tokenward/tokenward/ApiException;"), (4, u "()I")] 2

def k11c0 : Code := { maxStack := 5, maxLocals := 3, code := prog_1_method_1_code, exceptionTable := #[], attributes := #[] }
def k11m0 : Method := { name := "<init>", desc := "(ILjava/lang/String;)V", sig := { parameters := [.int, (.object "java/lang/String")], returnType := none }, accessFlags := 0, code := some k11c0 }
def k11c1 : Code := { maxStack := 4, maxLocals := 1, code := prog_1_method_2_code, exceptionTable := #[], attributes := #[] }
def k11m1 : Method := { name := "badRequest", desc := "(Ljava/lang/String;)Lcom/example/tokenward/tokenward/ApiException;", sig := { parameters := [(.object "java/lang/String")], returnType := some (.object "com/example/tokenward/tokenward/ApiException") }, accessFlags := 8, code := some k11c1 }
def k11c2 : Code := { maxStack := 1, maxLocals := 1, code := prog_1_method_6_code, exceptionTable := #[], attributes := #[] }
def k11m2 : Method := { name := "status", desc := "()I", sig := { parameters := [], returnType := some .int }, accessFlags := 0, code := some k11c2 }
/-- com/example/tokenward/tokenward/ApiException -/
def k11 : Class := { plain "com/example/tokenward/tokenward/ApiException" (some 10) with
  accessFlags := 48
  interfaces := #[]
  cf := some (fileOf pool11 8 #[] #[{ accessFlags := 0, nameIndex := 5, descriptorIndex := 15, attributes := #[] }, { accessFlags := 8, nameIndex := 33, descriptorIndex := 34, attributes := #[] }, { accessFlags := 0, nameIndex := 11, descriptorIndex := 39, attributes := #[] }] 48 2 #[] #[{ accessFlags := 26, nameIndex := 20, descriptorIndex := 21, attributes := #[] }, { accessFlags := 26, nameIndex := 25, descriptorIndex := 12, attributes := #[] }, { accessFlags := 26, nameIndex := 27, descriptorIndex := 12, attributes := #[] }, { accessFlags := 26, nameIndex := 29, descriptorIndex := 12, attributes := #[] }, { accessFlags := 18, nameIndex := 11, descriptorIndex := 12, attributes := #[] }])
  fields := #[{ name := "serialVersionUID", type := .long, accessFlags := 26, slot := 0, constantValue := 0 }, { name := "BAD_REQUEST", type := .int, accessFlags := 26, slot := 1, constantValue := 0 }, { name := "FORBIDDEN", type := .int, accessFlags := 26, slot := 2, constantValue := 0 }, { name := "NOT_FOUND", type := .int, accessFlags := 26, slot := 3, constantValue := 0 }, { name := "status", type := .int, accessFlags := 18, slot := 6, constantValue := 0 }]
  methods := #[k11m0, k11m1, k11m2]
  instanceTypes := #[(.object "java/lang/Object"), (.object "java/lang/String"), (.object "java/lang/Throwable"), (.array (.object "java/lang/StackTraceElement")), .int, (.object "java/util/List"), .int]
  staticTypes := #[.long, .int, .int, .int]
  resolved := Array.replicate 42 none
  statics := none }

def pool12 : Array CpInfo := pool [(6, .class_ 8), (1, u "java/lang/Object"), (0, u "<init>"), (0, u "()V"), (1, .class_ 14), (1, u "java/lang/StringUTF16"), (31, u "$assertionsDisabled"), (0, u "Z"), (13, u "HI_BYTE_SHIFT"), (0, u "I"), (2, u "LO_BYTE_SHIFT"), (49, .methodref 12 116), (0, .nameAndType 117 118), (0, u "compress"), (0, u "([CI[BII)I"), (3, u "([CII)[B"), (138, u "coderFromArrayLen"), (0, u "([BI)B"), (106, .class_ 371), (1, u "java/lang/StringUTF16$LinesSpliterator"), (58, u "MAX_LENGTH"), (196, .class_ 628), (0, u "java/lang/StringUTF16$CodePointsSpliterator"), (0, .class_ 630), (0, u "java/lang/StringUTF16$CharsSpliterator")] 4

def k12m0 : Method := { name := "<init>", desc := "()V", sig := { parameters := [], returnType := none }, accessFlags := 0, code := none }
def k12c1 : Code := { maxStack := 2, maxLocals := 2, code := jdk_52_method_15_code, exceptionTable := #[], attributes := #[] }
def k12m1 : Method := { name := "coderFromArrayLen", desc := "([BI)B", sig := { parameters := [(.array .byte), .int], returnType := some .byte }, accessFlags := 8, code := some k12c1 }
def k12c2 : Code := { maxStack := 5, maxLocals := 6, code := jdk_52_method_16_code, exceptionTable := #[], attributes := #[] }
def k12m2 : Method := { name := "compress", desc := "([CII)[B", sig := { parameters := [(.array .char), .int, .int], returnType := some (.array .byte) }, accessFlags := 9, code := some k12c2 }
def k12c3 : Code := { maxStack := 3, maxLocals := 7, code := jdk_52_method_21_code, exceptionTable := #[], attributes := #[] }
def k12m3 : Method := { name := "compress", desc := "([CI[BII)I", sig := { parameters := [(.array .char), .int, (.array .byte), .int, .int], returnType := some .int }, accessFlags := 9, code := some k12c3 }
/-- java/lang/StringUTF16 -/
def k12 : Class := { plain "java/lang/StringUTF16" (some 0) with
  accessFlags := 48
  interfaces := #[]
  cf := some (fileOf pool12 12 #[.nestMembers #[627, 629, 369]] #[{ accessFlags := 0, nameIndex := 9, descriptorIndex := 10, attributes := #[] }, { accessFlags := 8, nameIndex := 261, descriptorIndex := 262, attributes := #[] }, { accessFlags := 9, nameIndex := 117, descriptorIndex := 122, attributes := #[] }, { accessFlags := 9, nameIndex := 117, descriptorIndex := 118, attributes := #[] }] 48 6 #[] #[{ accessFlags := 26, nameIndex := 61, descriptorIndex := 62, attributes := #[] }, { accessFlags := 26, nameIndex := 65, descriptorIndex := 62, attributes := #[] }, { accessFlags := 24, nameIndex := 430, descriptorIndex := 62, attributes := #[] }, { accessFlags := 4120, nameIndex := 46, descriptorIndex := 47, attributes := #[] }])
  fields := #[{ name := "HI_BYTE_SHIFT", type := .int, accessFlags := 26, slot := 0, constantValue := 0 }, { name := "LO_BYTE_SHIFT", type := .int, accessFlags := 26, slot := 1, constantValue := 0 }, { name := "MAX_LENGTH", type := .int, accessFlags := 24, slot := 2, constantValue := 0 }, { name := "$assertionsDisabled", type := .boolean, accessFlags := 4120, slot := 3, constantValue := 0 }]
  methods := #[k12m0, k12m1, k12m2, k12m3]
  instanceTypes := #[]
  staticTypes := #[.int, .int, .int, .boolean]
  resolved := Array.replicate 635 none
  statics := none }

def pool13 : Array CpInfo := pool [(2, .class_ 4), (1, u "java/lang/Object"), (0, u "<init>"), (0, u "()V"), (12, .class_ 20), (0, u "java/util/Collections"), (63, u "r"), (0, u "Ljava/util/Random;"), (80, .class_ 167), (0, u "java/util/Collections$UnmodifiableCollection"), (6, .class_ 175), (0, u "java/util/Collections$UnmodifiableSequencedCollection"), (6, .class_ 183), (0, u "java/util/Collections$UnmodifiableSet"), (6, .class_ 191), (0, u "java/util/Collections$UnmodifiableSequencedSet"), (6, .class_ 199), (0, u "java/util/Collections$UnmodifiableSortedSet"), (6, .class_ 207), (0, u "java/util/Collections$UnmodifiableNavigableSet"), (4, .class_ 213), (0, u "java/util/Collections$UnmodifiableList"), (1, .class_ 216), (0, u "java/util/Collections$UnmodifiableRandomAccessList"), (6, .class_ 224), (0, u "java/util/Collections$UnmodifiableMap"), (6, .class_ 232), (0, u "java/util/Collections$UnmodifiableSequencedMap"), (4, .class_ 238), (0, u "java/util/Collections$UnmodifiableSortedMap"), (6, .class_ 246), (0, u "java/util/Collections$UnmodifiableNavigableMap"), (3, .class_ 251), (0, u "java/util/Collections$SynchronizedCollection"), (4, .class_ 257), (0, u "java/util/Collections$SynchronizedSet"), (4, .class_ 263), (0, u "java/util/Collections$SynchronizedSortedSet"), (1, .class_ 266), (0, u "java/util/Collections$SynchronizedNavigableSet"), (1, .class_ 269), (0, u "java/util/Collections$SynchronizedRandomAccessList"), (1, .class_ 272), (0, u "java/util/Collections$SynchronizedList"), (5, .class_ 279), (0, u "java/util/Collections$SynchronizedMap"), (1, .class_ 282), (0, u "java/util/Collections$SynchronizedSortedMap"), (1, .class_ 285), (0, u "java/util/Collections$SynchronizedNavigableMap"), (1, .class_ 288), (0, u "java/util/Collections$CheckedCollection"), (11, .class_ 301), (0, u "java/util/Collections$CheckedQueue"), (3, .class_ 306), (0, u "java/util/Collections$CheckedSet"), (3, .class_ 311), (0, u "java/util/Collections$CheckedSortedSet"), (3, .class_ 316), (0, u "java/util/Collections$CheckedNavigableSet"), (3, .class_ 321), (0, u "java/util/Collections$CheckedRandomAccessList"), (3, .class_ 326), (0, u "java/util/Collections$CheckedList"), (1, .class_ 329), (0, u "java/util/Collections$CheckedMap"), (3, .class_ 334), (0, u "java/util/Collections$CheckedSortedMap"), (3, .class_ 339), (0, u "java/util/Collections$CheckedNavigableMap"), (4, .class_ 346), (1, u "java/util/Collections$EmptyIterator"), (3, .class_ 352), (1, u "java/util/Collections$EmptyListIterator"), (2, .class_ 357), (1, u "java/util/Collections$EmptyEnumeration"), (4, u "EMPTY_SET"), (0, u "Ljava/util/Set;"), (6, u "EMPTY_LIST"), (0, u "Ljava/util/List;"), (2, u "EMPTY_MAP"), (0, u "Ljava/util/Map;"), (4, .class_ 381), (0, u "java/util/Collections$SingletonSet"), (2, .class_ 385), (0, u "java/util/Collections$1"), (1, .class_ 388), (0, u "java/util/Collections$2"), (1, .class_ 391), (0, u "java/util/Collections$SingletonList"), (1, .class_ 394), (0, u "java/util/Collections$SingletonMap"), (22, .class_ 418), (0, u "java/util/Collections$CopiesList"), (4, .class_ 425), (1, u "java/util/Collections$ReverseComparator"), (8, .class_ 435), (0, u "java/util/Collections$ReverseComparator2"), (6, .class_ 443), (0, u "java/util/Collections$3"), (25, .class_ 470), (0, u "java/util/Collections$SetFromMap"), (2, .class_ 474), (0, u "java/util/Collections$SequencedSetFromMap"), (3, .class_ 479), (0, u "java/util/Collections$AsLIFOQueue"), (11, .class_ 492), (0, u "java/util/Collections$EmptySet"), (1, .class_ 495), (0, u "java/util/Collections$EmptyList"), (1, .class_ 498), (0, u "java/util/Collections$EmptyMap"), (1, u "BINARYSEARCH_THRESHOLD"), (0, u "I"), (2, u "REVERSE_THRESHOLD"), (1, u "SHUFFLE_THRESHOLD"), (1, u "FILL_THRESHOLD"), (1, u "ROTATE_THRESHOLD"), (1, u "COPY_THRESHOLD"), (1, u "REPLACEALL_THRESHOLD"), (1, u "INDEXOFSUBLIST_THRESHOLD"), (333, .class_ 851), (0, u "java/util/Collections$CheckedMap$CheckedEntrySet"), (0, .class_ 853), (0, u "java/util/Collections$CheckedMap$CheckedEntrySet$CheckedEntry"), (0, .class_ 855), (0, u "java/util/Collections$CheckedMap$CheckedEntrySet$1"), (0, .class_ 857), (0, u "java/util/Collections$CheckedList$1"), (0, .class_ 859), (0, u "java/util/Collections$CheckedCollection$1"), (0, .class_ 861), (0, u "java/util/Collections$UnmodifiableNavigableMap$EmptyNavigableMap"), (0, .class_ 863), (0, u "java/util/Collections$UnmodifiableMap$UnmodifiableEntrySet"), (0, .class_ 865), (0, u "java/util/Collections$UnmodifiableMap$UnmodifiableEntrySet$UnmodifiableEntry"), (0, .class_ 867), (0, u "java/util/Collections$UnmodifiableMap$UnmodifiableEntrySet$UnmodifiableEntrySetSpliterator"), (0, .class_ 869), (0, u "java/util/Collections$UnmodifiableMap$UnmodifiableEntrySet$1"), (0, .class_ 871), (0, u "java/util/Collections$UnmodifiableList$1"), (0, .class_ 873), (0, u "java/util/Collections$UnmodifiableNavigableSet$EmptyNavigableSet"), (0, .class_ 875), (0, u "java/util/Collections$UnmodifiableCollection$1")] 57

def k13m0 : Method := { name := "<init>", desc := "()V", sig := { parameters := [], returnType := none }, accessFlags := 2, code := none }
/-- java/util/Collections -/
def k13 : Class := { plain "java/util/Collections" (some 0) with
  accessFlags := 33
  interfaces := #[]
  cf := some (fileOf pool13 19 #[.nestMembers #[478, 473, 469, 434, 423, 417, 393, 390, 380, 497, 494, 491, 355, 350, 344, 338, 333, 328, 850, 852, 854, 320, 325, 856, 315, 310, 305, 300, 287, 858, 284, 281, 278, 268, 271, 265, 262, 256, 250, 245, 860, 237, 231, 223, 862, 864, 866, 868, 215, 212, 870, 206, 872, 198, 190, 182, 174, 166, 874, 442, 387, 384]] #[{ accessFlags := 2, nameIndex := 5, descriptorIndex := 6, attributes := #[] }] 33 2 #[] #[{ accessFlags := 26, nameIndex := 500, descriptorIndex := 501, attributes := #[] }, { accessFlags := 26, nameIndex := 504, descriptorIndex := 501, attributes := #[] }, { accessFlags := 26, nameIndex := 506, descriptorIndex := 501, attributes := #[] }, { accessFlags := 26, nameIndex := 508, descriptorIndex := 501, attributes := #[] }, { accessFlags := 26, nameIndex := 510, descriptorIndex := 501, attributes := #[] }, { accessFlags := 26, nameIndex := 512, descriptorIndex := 501, attributes := #[] }, { accessFlags := 26, nameIndex := 514, descriptorIndex := 501, attributes := #[] }, { accessFlags := 26, nameIndex := 516, descriptorIndex := 501, attributes := #[] }, { accessFlags := 10, nameIndex := 84, descriptorIndex := 85, attributes := #[] }, { accessFlags := 25, nameIndex := 362, descriptorIndex := 363, attributes := #[] }, { accessFlags := 25, nameIndex := 370, descriptorIndex := 371, attributes := #[] }, { accessFlags := 25, nameIndex := 374, descriptorIndex := 375, attributes := #[] }])
  fields := #[{ name := "BINARYSEARCH_THRESHOLD", type := .int, accessFlags := 26, slot := 0, constantValue := 0 }, { name := "REVERSE_THRESHOLD", type := .int, accessFlags := 26, slot := 1, constantValue := 0 }, { name := "SHUFFLE_THRESHOLD", type := .int, accessFlags := 26, slot := 2, constantValue := 0 }, { name := "FILL_THRESHOLD", type := .int, accessFlags := 26, slot := 3, constantValue := 0 }, { name := "ROTATE_THRESHOLD", type := .int, accessFlags := 26, slot := 4, constantValue := 0 }, { name := "COPY_THRESHOLD", type := .int, accessFlags := 26, slot := 5, constantValue := 0 }, { name := "REPLACEALL_THRESHOLD", type := .int, accessFlags := 26, slot := 6, constantValue := 0 }, { name := "INDEXOFSUBLIST_THRESHOLD", type := .int, accessFlags := 26, slot := 7, constantValue := 0 }, { name := "r", type := (.object "java/util/Random"), accessFlags := 10, slot := 8, constantValue := 0 }, { name := "EMPTY_SET", type := (.object "java/util/Set"), accessFlags := 25, slot := 9, constantValue := 0 }, { name := "EMPTY_LIST", type := (.object "java/util/List"), accessFlags := 25, slot := 10, constantValue := 0 }, { name := "EMPTY_MAP", type := (.object "java/util/Map"), accessFlags := 25, slot := 11, constantValue := 0 }]
  methods := #[k13m0]
  instanceTypes := #[]
  staticTypes := #[.int, .int, .int, .int, .int, .int, .int, .int, (.object "java/util/Random"), (.object "java/util/Set"), (.object "java/util/List"), (.object "java/util/Map")]
  resolved := Array.replicate 933 none
  statics := some 2 }

def pool14 : Array CpInfo := pool [(4, .class_ 6), (1, u "java/lang/Object"), (0, u "<init>"), (0, u "()V"), (5, .class_ 16), (1, u "java/lang/StringLatin1"), (104, u "$assertionsDisabled"), (0, u "Z"), (98, .class_ 223), (1, u "java/lang/StringLatin1$LinesSpliterator"), (166, .class_ 391), (0, u "java/lang/StringLatin1$CharsSpliterator")] 3

def k14m0 : Method := { name := "<init>", desc := "()V", sig := { parameters := [], returnType := none }, accessFlags := 0, code := none }
/-- java/lang/StringLatin1 -/
def k14 : Class := { plain "java/lang/StringLatin1" (some 0) with
  accessFlags := 48
  interfaces := #[]
  cf := some (fileOf pool14 14 #[.nestMembers #[390, 221]] #[{ accessFlags := 0, nameIndex := 7, descriptorIndex := 8, attributes := #[] }] 48 4 #[] #[{ accessFlags := 4120, nameIndex := 121, descriptorIndex := 122, attributes := #[] }])
  fields := #[{ name := "$assertionsDisabled", type := .boolean, accessFlags := 4120, slot := 0, constantValue := 0 }]
  methods := #[k14m0]
  instanceTypes := #[]
  staticTypes := #[.boolean]
  resolved := Array.replicate 395 none
  statics := none }

def pool15 : Array CpInfo := pool [(2, .class_ 4), (1, u "java/lang/Object"), (0, u "<init>"), (0, u "()V"), (17, .class_ 26), (1, u "jdk/internal/util/Preconditions"), (28, .class_ 56), (0, u "jdk/internal/util/Preconditions$4"), (57, .class_ 115), (0, u "jdk/internal/util/Preconditions$1"), (7, u "SIOOBE_FORMATTER"), (0, u "Ljava/util/function/BiFunction;"), (0, .class_ 126), (0, u "jdk/internal/util/Preconditions$2"), (3, u "AIOOBE_FORMATTER"), (0, .class_ 132), (0, u "jdk/internal/util/Preconditions$3"), (3, u "IOOBE_FORMATTER")] 57

def k15m0 : Method := { name := "<init>", desc := "()V", sig := { parameters := [], returnType := none }, accessFlags := 1, code := none }
/-- jdk/internal/util/Preconditions -/
def k15 : Class := { plain "jdk/internal/util/Preconditions" (some 0) with
  accessFlags := 33
  interfaces := #[]
  cf := some (fileOf pool15 24 #[.nestMembers #[55, 131, 125, 114]] #[{ accessFlags := 1, nameIndex := 5, descriptorIndex := 6, attributes := #[] }] 33 2 #[] #[{ accessFlags := 25, nameIndex := 123, descriptorIndex := 124, attributes := #[] }, { accessFlags := 25, nameIndex := 130, descriptorIndex := 124, attributes := #[] }, { accessFlags := 25, nameIndex := 136, descriptorIndex := 124, attributes := #[] }])
  fields := #[{ name := "SIOOBE_FORMATTER", type := (.object "java/util/function/BiFunction"), accessFlags := 25, slot := 0, constantValue := 0 }, { name := "AIOOBE_FORMATTER", type := (.object "java/util/function/BiFunction"), accessFlags := 25, slot := 1, constantValue := 0 }, { name := "IOOBE_FORMATTER", type := (.object "java/util/function/BiFunction"), accessFlags := 25, slot := 2, constantValue := 0 }]
  methods := #[k15m0]
  instanceTypes := #[]
  staticTypes := #[(.object "java/util/function/BiFunction"), (.object "java/util/function/BiFunction"), (.object "java/util/function/BiFunction")]
  resolved := Array.replicate 194 none
  statics := some 3 }

def pool16 : Array CpInfo := pool [(9, u "<init>"), (6, .class_ 18), (1, u "java/lang/Object"), (0, u "()V"), (1, .class_ 23), (1, u "jdk/internal/util/ArraysSupport"), (0, u "LOG2_ARRAY_LONG_INDEX_SCALE"), (0, u "I"), (2, u "U"), (0, u "Ljdk/internal/misc/Unsafe;"), (8, u "BIG_ENDIAN"), (0, u "Z"), (8, u "LOG2_BYTE_BIT_SIZE"), (4, u "LOG2_ARRAY_INT_INDEX_SCALE"), (54, u "JLA"), (0, u "Ljdk/internal/access/JavaLangAccess;"), (11, u "LOG2_ARRAY_BOOLEAN_INDEX_SCALE"), (9, u "LOG2_ARRAY_BYTE_INDEX_SCALE"), (5, u "LOG2_ARRAY_CHAR_INDEX_SCALE"), (5, u "LOG2_ARRAY_SHORT_INDEX_SCALE"), (18, u "LOG2_ARRAY_FLOAT_INDEX_SCALE"), (24, u "LOG2_ARRAY_DOUBLE_INDEX_SCALE"), (89, u "T_BOOLEAN"), (2, u "T_CHAR"), (1, u "T_FLOAT"), (1, u "T_DOUBLE"), (1, u "T_BYTE"), (1, u "T_SHORT"), (1, u "T_INT"), (1, u "T_LONG"), (1, u "SOFT_MAX_ARRAY_LENGTH")] 83

def k16m0 : Method := { name := "<init>", desc := "()V", sig := { parameters := [], returnType := none }, accessFlags := 2, code := none }
/-- jdk/internal/util/ArraysSupport -/
def k16 : Class := { plain "jdk/internal/util/ArraysSupport" (some 0) with
  accessFlags := 33
  interfaces := #[]
  cf := some (fileOf pool16 21 #[] #[{ accessFlags := 2, nameIndex := 9, descriptorIndex := 19, attributes := #[] }] 33 16 #[] #[{ accessFlags := 24, nameIndex := 28, descriptorIndex := 29, attributes := #[] }, { accessFlags := 26, nameIndex := 38, descriptorIndex := 39, attributes := #[] }, { accessFlags := 25, nameIndex := 121, descriptorIndex := 25, attributes := #[] }, { accessFlags := 25, nameIndex := 131, descriptorIndex := 25, attributes := #[] }, { accessFlags := 25, nameIndex := 137, descriptorIndex := 25, attributes := #[] }, { accessFlags := 25, nameIndex := 143, descriptorIndex := 25, attributes := #[] }, { accessFlags := 25, nameIndex := 53, descriptorIndex := 25, attributes := #[] }, { accessFlags := 25, nameIndex := 24, descriptorIndex := 25, attributes := #[] }, { accessFlags := 25, nameIndex := 162, descriptorIndex := 25, attributes := #[] }, { accessFlags := 25, nameIndex := 187, descriptorIndex := 25, attributes := #[] }, { accessFlags := 26, nameIndex := 48, descriptorIndex := 25, attributes := #[] }, { accessFlags := 25, nameIndex := 277, descriptorIndex := 25, attributes := #[] }, { accessFlags := 25, nameIndex := 280, descriptorIndex := 25, attributes := #[] }, { accessFlags := 25, nameIndex := 282, descriptorIndex := 25, attributes := #[] }, { accessFlags := 25, nameIndex := 284, descriptorIndex := 25, attributes := #[] }, { accessFlags := 25, nameIndex := 286, descriptorIndex := 25, attributes := #[] }, { accessFlags := 25, nameIndex := 288, descriptorIndex := 25, attributes := #[] }, { accessFlags := 25, nameIndex := 290, descriptorIndex := 25, attributes := #[] }, { accessFlags := 25, nameIndex := 292, descriptorIndex := 25, attributes := #[] }, { accessFlags := 26, nameIndex := 108, descriptorIndex := 109, attributes := #[] }, { accessFlags := 25, nameIndex := 294, descriptorIndex := 25, attributes := #[] }])
  fields := #[{ name := "U", type := (.object "jdk/internal/misc/Unsafe"), accessFlags := 24, slot := 0, constantValue := 0 }, { name := "BIG_ENDIAN", type := .boolean, accessFlags := 26, slot := 1, constantValue := 0 }, { name := "LOG2_ARRAY_BOOLEAN_INDEX_SCALE", type := .int, accessFlags := 25, slot := 2, constantValue := 0 }, { name := "LOG2_ARRAY_BYTE_INDEX_SCALE", type := .int, accessFlags := 25, slot := 3, constantValue := 0 }, { name := "LOG2_ARRAY_CHAR_INDEX_SCALE", type := .int, accessFlags := 25, slot := 4, constantValue := 0 }, { name := "LOG2_ARRAY_SHORT_INDEX_SCALE", type := .int, accessFlags := 25, slot := 5, constantValue := 0 }, { name := "LOG2_ARRAY_INT_INDEX_SCALE", type := .int, accessFlags := 25, slot := 6, constantValue := 0 }, { name := "LOG2_ARRAY_LONG_INDEX_SCALE", type := .int, accessFlags := 25, slot := 7, constantValue := 0 }, { name := "LOG2_ARRAY_FLOAT_INDEX_SCALE", type := .int, accessFlags := 25, slot := 8, constantValue := 0 }, { name := "LOG2_ARRAY_DOUBLE_INDEX_SCALE", type := .int, accessFlags := 25, slot := 9, constantValue := 0 }, { name := "LOG2_BYTE_BIT_SIZE", type := .int, accessFlags := 26, slot := 10, constantValue := 0 }, { name := "T_BOOLEAN", type := .int, accessFlags := 25, slot := 11, constantValue := 0 }, { name := "T_CHAR", type := .int, accessFlags := 25, slot := 12, constantValue := 0 }, { name := "T_FLOAT", type := .int, accessFlags := 25, slot := 13, constantValue := 0 }, { name := "T_DOUBLE", type := .int, accessFlags := 25, slot := 14, constantValue := 0 }, { name := "T_BYTE", type := .int, accessFlags := 25, slot := 15, constantValue := 0 }, { name := "T_SHORT", type := .int, accessFlags := 25, slot := 16, constantValue := 0 }, { name := "T_INT", type := .int, accessFlags := 25, slot := 17, constantValue := 0 }, { name := "T_LONG", type := .int, accessFlags := 25, slot := 18, constantValue := 0 }, { name := "JLA", type := (.object "jdk/internal/access/JavaLangAccess"), accessFlags := 26, slot := 19, constantValue := 0 }, { name := "SOFT_MAX_ARRAY_LENGTH", type := .int, accessFlags := 25, slot := 20, constantValue := 0 }]
  methods := #[k16m0]
  instanceTypes := #[]
  staticTypes := #[(.object "jdk/internal/misc/Unsafe"), .boolean, .int, .int, .int, .int, .int, .int, .int, .int, .int, .int, .int, .int, .int, .int, .int, .int, .int, (.object "jdk/internal/access/JavaLangAccess"), .int]
  resolved := Array.replicate 378 none
  statics := none }

def pool17 : Array CpInfo := pool [(8, .class_ 10), (1, u "java/lang/Iterable"), (24, .class_ 36), (0, u "java/lang/Object")] 25

/-- java/lang/Iterable -/
def k17 : Class := { plain "java/lang/Iterable" (some 0) with
  accessFlags := 1537
  interfaces := #[]
  cf := some (fileOf pool17 8 #[] #[] 1537 35 #[] #[])
  fields := #[]
  methods := #[]
  instanceTypes := #[]
  staticTypes := #[]
  resolved := Array.replicate 62 none
  statics := none }

def pool18 : Array CpInfo := pool [(10, .class_ 12), (1, u "java/util/Collection"), (47, .class_ 61), (0, u "java/lang/Object"), (0, .class_ 63), (0, u "java/lang/Iterable")] 51

/-- java/util/Collection -/
def k18 : Class := { plain "java/util/Collection" (some 0) with
  accessFlags := 1537
  interfaces := #[17]
  cf := some (fileOf pool18 10 #[] #[] 1537 60 #[62] #[])
  fields := #[]
  methods := #[]
  instanceTypes := #[]
  staticTypes := #[]
  resolved := Array.replicate 115 none
  statics := none }

def pool19 : Array CpInfo := pool [(2, .class_ 4), (1, u "java/lang/Object"), (0, u "<init>"), (0, u "()V"), (1, .class_ 10), (1, u "java/util/AbstractCollection"), (66, .class_ 78), (0, u "java/util/Collection")] 81

def k19m0 : Method := { name := "<init>", desc := "()V", sig := { parameters := [], returnType := none }, accessFlags := 4, code := none }
/-- java/util/AbstractCollection -/
def k19 : Class := { plain "java/util/AbstractCollection" (some 0) with
  accessFlags := 1057
  interfaces := #[18]
  cf := some (fileOf pool19 8 #[] #[{ accessFlags := 4, nameIndex := 5, descriptorIndex := 6, attributes := #[] }] 1057 2 #[77] #[])
  fields := #[]
  methods := #[k19m0]
  instanceTypes := #[]
  staticTypes := #[]
  resolved := Array.replicate 160 none
  statics := none }

def pool20 : Array CpInfo := pool [(8, .class_ 10), (1, u "java/util/SequencedCollection"), (15, .class_ 27), (0, u "java/lang/Object"), (0, .class_ 29), (0, u "java/util/Collection")] 27

/-- java/util/SequencedCollection -/
def k20 : Class := { plain "java/util/SequencedCollection" (some 0) with
  accessFlags := 1537
  interfaces := #[18]
  cf := some (fileOf pool20 8 #[] #[] 1537 26 #[28] #[])
  fields := #[]
  methods := #[]
  instanceTypes := #[]
  staticTypes := #[]
  resolved := Array.replicate 57 none
  statics := none }

def pool21 : Array CpInfo := pool [(8, .class_ 10), (1, u "java/util/List"), (92, .class_ 104), (0, u "java/lang/Object"), (15, .class_ 121), (0, u "java/util/SequencedCollection")] 129

/-- java/util/List -/
def k21 : Class := { plain "java/util/List" (some 0) with
  accessFlags := 1537
  interfaces := #[20]
  cf := some (fileOf pool21 8 #[] #[] 1537 103 #[120] #[])
  fields := #[]
  methods := #[]
  instanceTypes := #[]
  staticTypes := #[]
  resolved := Array.replicate 251 none
  statics := none }

def pool22 : Array CpInfo := pool [(2, .class_ 4), (1, u "java/util/AbstractCollection"), (0, u "<init>"), (0, u "()V"), (1, .class_ 10), (1, u "java/util/AbstractList"), (0, u "modCount"), (0, u "I"), (64, .class_ 78), (0, u "java/util/AbstractList$Itr"), (3, .class_ 83), (0, u "java/util/AbstractList$ListItr"), (9, .class_ 94), (0, u "java/util/AbstractList$RandomAccessSubList"), (3, .class_ 99), (0, u "java/util/AbstractList$SubList"), (33, .class_ 134), (0, u "java/util/List"), (73, .class_ 209), (0, u "java/util/AbstractList$SubList$1"), (0, .class_ 211), (0, u "java/util/AbstractList$RandomAccessSpliterator")] 6

def k22m0 : Method := { name := "<init>", desc := "()V", sig := { parameters := [], returnType := none }, accessFlags := 4, code := none }
/-- java/util/AbstractList -/
def k22 : Class := { plain "java/util/AbstractList" (some 19) with
  accessFlags := 1057
  interfaces := #[21]
  cf := some (fileOf pool22 8 #[.nestMembers #[93, 98, 208, 210, 82, 77]] #[{ accessFlags := 4, nameIndex := 5, descriptorIndex := 6, attributes := #[] }] 1057 2 #[133] #[{ accessFlags := 132, nameIndex := 11, descriptorIndex := 12, attributes := #[] }])
  fields := #[{ name := "modCount", type := .int, accessFlags := 132, slot := 0, constantValue := 0 }]
  methods := #[k22m0]
  instanceTypes := #[.int]
  staticTypes := #[]
  resolved := Array.replicate 218 none
  statics := none }

def pool23 : Array CpInfo := pool [(1, .class_ 2), (0, u "java/util/RandomAccess"), (0, .class_ 4), (0, u "java/lang/Object")] 2

/-- java/util/RandomAccess -/
def k23 : Class := { plain "java/util/RandomAccess" (some 0) with
  accessFlags := 1537
  interfaces := #[]
  cf := some (fileOf pool23 1 #[] #[] 1537 3 #[] #[])
  fields := #[]
  methods := #[]
  instanceTypes := #[]
  staticTypes := #[]
  resolved := Array.replicate 7 none
  statics := none }

def pool24 : Array CpInfo := pool [(2, .class_ 4), (1, u "java/util/AbstractList"), (0, u "<init>"), (0, u "()V"), (1, .class_ 10), (1, u "java/util/Collections"), (54, .class_ 66), (0, u "java/util/Collections$EmptyList"), (0, .class_ 68), (0, u "java/util/RandomAccess"), (0, .class_ 70), (0, u "java/io/Serializable"), (0, u "serialVersionUID"), (0, u "J")] 77

def k24m0 : Method := { name := "<init>", desc := "()V", sig := { parameters := [], returnType := none }, accessFlags := 2, code := none }
/-- java/util/Collections$EmptyList -/
def k24 : Class := { plain "java/util/Collections$EmptyList" (some 22) with
  accessFlags := 32
  interfaces := #[23, 2]
  cf := some (fileOf pool24 65 #[.nestHost 8] #[{ accessFlags := 2, nameIndex := 5, descriptorIndex := 6, attributes := #[] }] 32 2 #[67, 69] #[{ accessFlags := 26, nameIndex := 71, descriptorIndex := 72, attributes := #[] }])
  fields := #[{ name := "serialVersionUID", type := .long, accessFlags := 26, slot := 0, constantValue := 0 }]
  methods := #[k24m0]
  instanceTypes := #[.int]
  staticTypes := #[.long]
  resolved := Array.replicate 150 none
  statics := none }

def pool25 : Array CpInfo := pool [(2, .class_ 4), (1, u "java/lang/StackTraceElement"), (0, u "<init>"), (2, .class_ 10), (1, u "java/lang/Object"), (0, u "()V"), (2, u "format"), (0, u "B"), (2, u "classLoaderName"), (0, u "Ljava/lang/String;"), (2, u "moduleName"), (2, u "moduleVersion"), (12, u "declaringClass"), (4, u "methodName"), (2, u "fileName"), (2, u "lineNumber"), (0, u "I"), (65, u "declaringClassObject"), (0, u "Ljava/lang/Class;"), (33, .class_ 153), (1, u "java/lang/StackTraceElement$HashedModules"), (17, .class_ 172), (0, u "java/io/Serializable"), (0, u "NATIVE_METHOD"), (1, u "UNKNOWN_SOURCE"), (2, u "BUILTIN_CLASS_LOADER"), (1, u "JDK_NON_UPGRADEABLE_MODULE"), (1, u "serialVersionUID"), (0, u "J")] 51

def k25m0 : Method := { name := "<init>", desc := "()V", sig := { parameters := [], returnType := none }, accessFlags := 2, code := none }
/-- java/lang/StackTraceElement -/
def k25 : Class := { plain "java/lang/StackTraceElement" (some 0) with
  accessFlags := 49
  interfaces := #[2]
  cf := some (fileOf pool25 2 #[.nestMembers #[151]] #[{ accessFlags := 2, nameIndex := 5, descriptorIndex := 11, attributes := #[] }] 49 8 #[171] #[{ accessFlags := 26, nameIndex := 173, descriptorIndex := 19, attributes := #[] }, { accessFlags := 26, nameIndex := 175, descriptorIndex := 19, attributes := #[] }, { accessFlags := 130, nameIndex := 116, descriptorIndex := 117, attributes := #[] }, { accessFlags := 2, nameIndex := 18, descriptorIndex := 19, attributes := #[] }, { accessFlags := 2, nameIndex := 22, descriptorIndex := 19, attributes := #[] }, { accessFlags := 2, nameIndex := 25, descriptorIndex := 19, attributes := #[] }, { accessFlags := 2, nameIndex := 38, descriptorIndex := 19, attributes := #[] }, { accessFlags := 2, nameIndex := 43, descriptorIndex := 19, attributes := #[] }, { accessFlags := 2, nameIndex := 46, descriptorIndex := 19, attributes := #[] }, { accessFlags := 2, nameIndex := 49, descriptorIndex := 50, attributes := #[] }, { accessFlags := 2, nameIndex := 14, descriptorIndex := 15, attributes := #[] }, { accessFlags := 26, nameIndex := 178, descriptorIndex := 15, attributes := #[] }, { accessFlags := 26, nameIndex := 180, descriptorIndex := 15, attributes := #[] }, { accessFlags := 26, nameIndex := 182, descriptorIndex := 183, attributes := #[] }])
  fields := #[{ name := "NATIVE_METHOD", type := (.object "java/lang/String"), accessFlags := 26, slot := 0, constantValue := 0 }, { name := "UNKNOWN_SOURCE", type := (.object "java/lang/String"), accessFlags := 26, slot := 1, constantValue := 0 }, { name := "declaringClassObject", type := (.object "java/lang/Class"), accessFlags := 130, slot := 0, constantValue := 0 }, { name := "classLoaderName", type := (.object "java/lang/String"), accessFlags := 2, slot := 1, constantValue := 0 }, { name := "moduleName", type := (.object "java/lang/String"), accessFlags := 2, slot := 2, constantValue := 0 }, { name := "moduleVersion", type := (.object "java/lang/String"), accessFlags := 2, slot := 3, constantValue := 0 }, { name := "declaringClass", type := (.object "java/lang/String"), accessFlags := 2, slot := 4, constantValue := 0 }, { name := "methodName", type := (.object "java/lang/String"), accessFlags := 2, slot := 5, constantValue := 0 }, { name := "fileName", type := (.object "java/lang/String"), accessFlags := 2, slot := 6, constantValue := 0 }, { name := "lineNumber", type := .int, accessFlags := 2, slot := 7, constantValue := 0 }, { name := "format", type := .byte, accessFlags := 2, slot := 8, constantValue := 0 }, { name := "BUILTIN_CLASS_LOADER", type := .byte, accessFlags := 26, slot := 2, constantValue := 0 }, { name := "JDK_NON_UPGRADEABLE_MODULE", type := .byte, accessFlags := 26, slot := 3, constantValue := 0 }, { name := "serialVersionUID", type := .long, accessFlags := 26, slot := 4, constantValue := 0 }]
  methods := #[k25m0]
  instanceTypes := #[(.object "java/lang/Class"), (.object "java/lang/String"), (.object "java/lang/String"), (.object "java/lang/String"), (.object "java/lang/String"), (.object "java/lang/String"), (.object "java/lang/String"), .int, .byte]
  staticTypes := #[(.object "java/lang/String"), (.object "java/lang/String"), .byte, .byte, .long]
  resolved := Array.replicate 235 none
  statics := none }

def pool26 : Array CpInfo := pool [(1, u "java/lang/Cloneable"), (0, .class_ 1), (0, u "java/lang/Object"), (0, .class_ 3)] 3

/-- java/lang/Cloneable -/
def k26 : Class := { plain "java/lang/Cloneable" (some 0) with
  accessFlags := 1537
  interfaces := #[]
  cf := some (fileOf pool26 2 #[] #[] 1537 4 #[] #[])
  fields := #[]
  methods := #[]
  instanceTypes := #[]
  staticTypes := #[]
  resolved := Array.replicate 8 none
  statics := none }

/-- the primitive byte -/
def k27 : Class := { plain "byte" none with kind := .primitive 'B', accessFlags := 0x411 }
/-- [B -/
def k28 : Class := { plain "[B" (some 0) with kind := .array 27 .byte, interfaces := #[26, 2], accessFlags := 1041 }

/-- the primitive char -/
def k29 : Class := { plain "char" none with kind := .primitive 'C', accessFlags := 0x411 }
/-- [C -/
def k30 : Class := { plain "[C" (some 0) with kind := .array 29 .char, interfaces := #[26, 2], accessFlags := 1041 }

/-- the primitive int -/
def k31 : Class := { plain "int" none with kind := .primitive 'I', accessFlags := 0x411 }
/-- [I -/
def k32 : Class := { plain "[I" (some 0) with kind := .array 31 .int, interfaces := #[26, 2], accessFlags := 1041 }

/-- [Ljava/lang/StackTraceElement; -/
def k33 : Class := { plain "[Ljava/lang/StackTraceElement;" (some 0) with kind := .array 25 (.object "java/lang/StackTraceElement"), interfaces := #[26, 2], accessFlags := 1041 }

/-- [Ljava/lang/Throwable; -/
def k34 : Class := { plain "[Ljava/lang/Throwable;" (some 0) with kind := .array 8 (.object "java/lang/Throwable"), interfaces := #[26, 2], accessFlags := 1041 }

def heap : Heap := #[{ cls := 7, slots := #[.long 0, .int 1, .null, .int 0, .null, .int 0, .int 0], vm := .statics 7 },
  { cls := 8, slots := #[.long 0, .ref 4, .ref 5, .null, .null, .null, .null, .ref 6, .int 1], vm := .statics 8 },
  { cls := 13, slots := #[.int 0, .int 0, .int 0, .int 0, .int 0, .int 0, .int 0, .int 0, .null, .null, .ref 5, .null], vm := .statics 13 },
  { cls := 15, slots := #[.null, .null, .null], vm := .statics 15 },
  { cls := 33, slots := #[], vm := .none },
  { cls := 24, slots := #[.int 0], vm := .none },
  { cls := 34, slots := #[], vm := .none }]
def classes : Array Class := #[k0, k1, k2, k3, k4, k5, k6, k7, k8, k9, k10, k11, k12, k13, k14, k15, k16, k17, k18, k19, k20, k21, k22, k23, k24, k25, k26, k27, k28, k29, k30, k31, k32, k33, k34]
def interned : List (Array UInt16 × Addr) := []
def slotsUsed : Nat := 32
def theMethod : MethodId := ⟨1, 2⟩
def args0 : Array Value := #[.int 3, .int 4, .int 5, .int 65]
def aboutOver (below : List Frame) : State where
  vm := { classes := classes, interned := interned.toArray }
  heap := heap
  slotsUsed := slotsUsed
  threads := #[{ frames := .invoking theMethod args0 :: below }]
def below0 : List Frame := [.native { method := ⟨0, 0⟩, args := #[] }]
def about1 : State := aboutOver below0
def p0 : Program := .bare "" "" ""
def e0 : Env := launch0.env 0 0 0
theorem w_frames : about1.frames = Frame.invoking theMethod args0 :: below0 := rfl
set_option maxRecDepth 65536 in
theorem w_args : argsFit about1.vm theMethod args0 = true := by decide +kernel
set_option maxRecDepth 65536 in
theorem w_heap : heapFits about1 = true := by decide +kernel
set_option maxRecDepth 65536 in
theorem w_runnable : about1.curStatus? = some .runnable := by decide +kernel
set_option maxRecDepth 65536 in
theorem w_alone : about1.alone = true := by decide +kernel
set_option maxRecDepth 65536 in
theorem w_named : about1.methodNamed? x = some theMethod := by decide +kernel
set_option maxRecDepth 65536 in
theorem w_hears : about1.hears theMethod below0 = true := by decide +kernel
set_option maxRecDepth 65536 in
theorem w_ripe : about1.ripe theMethod args0 below0 = true := by decide +kernel
theorem w_running : about1.status = .running := rfl
set_option maxRecDepth 65536 in
theorem w_room : about1.hasRoom e0.platform room_1 = true :=
  launch0.hasRoom_least _ room_1 (by decide +kernel) (by decide +kernel) (by decide +kernel) (by decide +kernel) (by decide +kernel) (by decide +kernel)
theorem allAtoms_all (ts : List Jvm.Cond) (a : Array Jvm.Value) (st : Jvm.State) : (allAtoms ts).before a st = ts.all (fun c => c.before a st) := by
  induction ts with
  | nil => rfl
  | cons c t ih =>
    show (Jvm.Cond.and c (allAtoms t)).before a st = _
    rw [Jvm.Cond.before_and, ih, List.all_cons]
def words1 : List Jvm.Cond := Jvm.Cond.code x code maxLocals ret :: tables_1
/-- a 'code' word, met by the world's own term for the bytes: nothing is compared byte by byte -/
theorem code_word {y : MethodName} {bytes : ByteArray} {mx : Nat} {rt : Option FieldType} {a : Array Value} {s : State} {m : MethodId} {meth : Method} {c : Code} (h1 : s.methodNamed? y = some m) (h2 : s.vm.method? m = some meth) (h3 : meth.code = some c) (h4 : c.code = bytes)
    (h5 : (c.maxLocals == mx && c.exceptionTable.isEmpty && decide (c.maxStack ≤ mostOperands) && decide (meth.sig.returnType = rt) && !meth.locks && decide (parseMethodDescriptor y.desc = some meth.sig)) = true) : (Jvm.Cond.code y bytes mx rt).before a s = true := by
  simp only [Bool.and_eq_true, beq_iff_eq, Bool.not_eq_true', decide_eq_true_eq] at h5
  obtain ⟨⟨⟨⟨⟨g1, g2⟩, g3⟩, g4⟩, g5⟩, g6⟩ := h5
  simp [Cond.before, Cond.holds, Cond.value, h1, h2, h3, h4, g1, g2, g3, g4, g5, g6]
def isCode : Jvm.Cond → Bool
  | .code _ _ _ _ => true
  | _ => false
theorem all_split {L : List Jvm.Cond} {P : Jvm.Cond → Bool} (h1 : L.all (fun c => isCode c || P c) = true) (h2 : ∀ c ∈ L.filter isCode, P c = true) : L.all P = true := by
  refine List.all_eq_true.mpr fun c hc => ?_
  have h := List.all_eq_true.mp h1 c hc
  rcases Bool.eq_false_or_eq_true (isCode c) with hi | hi
  · exact h2 c (List.mem_filter.mpr ⟨hc, hi⟩)
  · simpa [hi] using h
set_option maxRecDepth 65536 in
theorem w_c0 : (Jvm.Cond.code x code maxLocals ret).before args0 about1 = true := code_word (m := ⟨1, 2⟩) (meth := k1m2) (c := k1c2) (by decide +kernel) rfl rfl rfl (by decide +kernel)
set_option maxRecDepth 65536 in
theorem w_c1 : (Jvm.Cond.code ({ cls := "com/example/tokenward/tokenward/ApiExceptionBadRequestPinLaw", name := "draw", desc := "(IIII)Ljava/lang/String;" } : Jvm.MethodName) method_2_code (9 : Nat) (Option.some (Jvm.ClassFile.FieldType.object "java/lang/String"))).before args0 about1 = true := code_word (m := ⟨1, 1⟩) (meth := k1m1) (c := k1c1) (by decide +kernel) rfl rfl rfl (by decide +kernel)
set_option maxRecDepth 65536 in
theorem w_c2 : (Jvm.Cond.code ({ cls := "java/lang/String", name := "<init>", desc := "([C)V" } : Jvm.MethodName) jdk_42_method_3_code (2 : Nat) (Option.none : Option Jvm.ClassFile.FieldType)).before args0 about1 = true := code_word (m := ⟨7, 1⟩) (meth := k7m1) (c := k7c1) (by decide +kernel) rfl rfl rfl (by decide +kernel)
set_option maxRecDepth 65536 in
theorem w_c3 : (Jvm.Cond.code ({ cls := "java/lang/String", name := "<init>", desc := "([CIILjava/lang/Void;)V" } : Jvm.MethodName) jdk_42_method_149_code (6 : Nat) (Option.none : Option Jvm.ClassFile.FieldType)).before args0 about1 = true := code_word (m := ⟨7, 2⟩) (meth := k7m2) (c := k7c2) (by decide +kernel) rfl rfl rfl (by decide +kernel)
set_option maxRecDepth 65536 in
theorem w_c4 : (Jvm.Cond.code ({ cls := "java/lang/Object", name := "<init>", desc := "()V" } : Jvm.MethodName) object_method_1_code (1 : Nat) (Option.none : Option Jvm.ClassFile.FieldType)).before args0 about1 = true := code_word (m := ⟨0, 0⟩) (meth := k0m0) (c := k0c0) (by decide +kernel) rfl rfl rfl (by decide +kernel)
set_option maxRecDepth 65536 in
theorem w_c5 : (Jvm.Cond.code ({ cls := "com/example/tokenward/tokenward/ApiException", name := "badRequest", desc := "(Ljava/lang/String;)Lcom/example/tokenward/tokenward/ApiException;" } : Jvm.MethodName) prog_1_method_2_code (1 : Nat) (Option.some (Jvm.ClassFile.FieldType.object "com/example/tokenward/tokenward/ApiException"))).before args0 about1 = true := code_word (m := ⟨11, 1⟩) (meth := k11m1) (c := k11c1) (by decide +kernel) rfl rfl rfl (by decide +kernel)
set_option maxRecDepth 65536 in
theorem w_c6 : (Jvm.Cond.code ({ cls := "com/example/tokenward/tokenward/ApiException", name := "<init>", desc := "(ILjava/lang/String;)V" } : Jvm.MethodName) prog_1_method_1_code (3 : Nat) (Option.none : Option Jvm.ClassFile.FieldType)).before args0 about1 = true := code_word (m := ⟨11, 0⟩) (meth := k11m0) (c := k11c0) (by decide +kernel) rfl rfl rfl (by decide +kernel)
set_option maxRecDepth 65536 in
theorem w_c7 : (Jvm.Cond.code ({ cls := "java/lang/RuntimeException", name := "<init>", desc := "(Ljava/lang/String;Ljava/lang/Throwable;ZZ)V" } : Jvm.MethodName) jdk_58_method_5_code (5 : Nat) (Option.none : Option Jvm.ClassFile.FieldType)).before args0 about1 = true := code_word (m := ⟨10, 1⟩) (meth := k10m1) (c := k10c1) (by decide +kernel) rfl rfl rfl (by decide +kernel)
set_option maxRecDepth 65536 in
theorem w_c8 : (Jvm.Cond.code ({ cls := "java/lang/Exception", name := "<init>", desc := "(Ljava/lang/String;Ljava/lang/Throwable;ZZ)V" } : Jvm.MethodName) jdk_59_method_5_code (5 : Nat) (Option.none : Option Jvm.ClassFile.FieldType)).before args0 about1 = true := code_word (m := ⟨9, 1⟩) (meth := k9m1) (c := k9c1) (by decide +kernel) rfl rfl rfl (by decide +kernel)
set_option maxRecDepth 65536 in
theorem w_c9 : (Jvm.Cond.code ({ cls := "java/lang/Throwable", name := "<init>", desc := "(Ljava/lang/String;Ljava/lang/Throwable;ZZ)V" } : Jvm.MethodName) jdk_78_method_5_code (5 : Nat) (Option.none : Option Jvm.ClassFile.FieldType)).before args0 about1 = true := code_word (m := ⟨8, 1⟩) (meth := k8m1) (c := k8c1) (by decide +kernel) rfl rfl rfl (by decide +kernel)
set_option maxRecDepth 65536 in
theorem w_c10 : (Jvm.Cond.code ({ cls := "com/example/tokenward/tokenward/ApiException", name := "status", desc := "()I" } : Jvm.MethodName) prog_1_method_6_code (1 : Nat) (Option.some Jvm.ClassFile.FieldType.int)).before args0 about1 = true := code_word (m := ⟨11, 2⟩) (meth := k11m2) (c := k11c2) (by decide +kernel) rfl rfl rfl (by decide +kernel)
set_option maxRecDepth 65536 in
theorem w_c11 : (Jvm.Cond.code ({ cls := "java/lang/Throwable", name := "getMessage", desc := "()Ljava/lang/String;" } : Jvm.MethodName) jdk_78_method_6_code (1 : Nat) (Option.some (Jvm.ClassFile.FieldType.object "java/lang/String"))).before args0 about1 = true := code_word (m := ⟨8, 2⟩) (meth := k8m2) (c := k8c2) (by decide +kernel) rfl rfl rfl (by decide +kernel)
set_option maxRecDepth 65536 in
theorem w_c12 : (Jvm.Cond.code ({ cls := "java/lang/StringUTF16", name := "compress", desc := "([CII)[B" } : Jvm.MethodName) jdk_52_method_16_code (6 : Nat) (Option.some (Jvm.ClassFile.FieldType.array Jvm.ClassFile.FieldType.byte))).before args0 about1 = true := code_word (m := ⟨12, 2⟩) (meth := k12m2) (c := k12c2) (by decide +kernel) rfl rfl rfl (by decide +kernel)
set_option maxRecDepth 65536 in
theorem w_c13 : (Jvm.Cond.code ({ cls := "java/lang/StringUTF16", name := "compress", desc := "([CI[BII)I" } : Jvm.MethodName) jdk_52_method_21_code (7 : Nat) (Option.some Jvm.ClassFile.FieldType.int)).before args0 about1 = true := code_word (m := ⟨12, 3⟩) (meth := k12m3) (c := k12c3) (by decide +kernel) rfl rfl rfl (by decide +kernel)
set_option maxRecDepth 65536 in
theorem w_c14 : (Jvm.Cond.code ({ cls := "java/lang/StringUTF16", name := "coderFromArrayLen", desc := "([BI)B" } : Jvm.MethodName) jdk_52_method_15_code (2 : Nat) (Option.some Jvm.ClassFile.FieldType.byte)).before args0 about1 = true := code_word (m := ⟨12, 1⟩) (meth := k12m1) (c := k12c1) (by decide +kernel) rfl rfl rfl (by decide +kernel)
def codes1 : List Jvm.Cond := [Jvm.Cond.code x code maxLocals ret, Jvm.Cond.code ({ cls := "com/example/tokenward/tokenward/ApiExceptionBadRequestPinLaw", name := "draw", desc := "(IIII)Ljava/lang/String;" } : Jvm.MethodName) method_2_code (9 : Nat) (Option.some (Jvm.ClassFile.FieldType.object "java/lang/String")), Jvm.Cond.code ({ cls := "java/lang/String", name := "<init>", desc := "([C)V" } : Jvm.MethodName) jdk_42_method_3_code (2 : Nat) (Option.none : Option Jvm.ClassFile.FieldType), Jvm.Cond.code ({ cls := "java/lang/String", name := "<init>", desc := "([CIILjava/lang/Void;)V" } : Jvm.MethodName) jdk_42_method_149_code (6 : Nat) (Option.none : Option Jvm.ClassFile.FieldType), Jvm.Cond.code ({ cls := "java/lang/Object", name := "<init>", desc := "()V" } : Jvm.MethodName) object_method_1_code (1 : Nat) (Option.none : Option Jvm.ClassFile.FieldType), Jvm.Cond.code ({ cls := "com/example/tokenward/tokenward/ApiException", name := "badRequest", desc := "(Ljava/lang/String;)Lcom/example/tokenward/tokenward/ApiException;" } : Jvm.MethodName) prog_1_method_2_code (1 : Nat) (Option.some (Jvm.ClassFile.FieldType.object "com/example/tokenward/tokenward/ApiException")), Jvm.Cond.code ({ cls := "com/example/tokenward/tokenward/ApiException", name := "<init>", desc := "(ILjava/lang/String;)V" } : Jvm.MethodName) prog_1_method_1_code (3 : Nat) (Option.none : Option Jvm.ClassFile.FieldType), Jvm.Cond.code ({ cls := "java/lang/RuntimeException", name := "<init>", desc := "(Ljava/lang/String;Ljava/lang/Throwable;ZZ)V" } : Jvm.MethodName) jdk_58_method_5_code (5 : Nat) (Option.none : Option Jvm.ClassFile.FieldType), Jvm.Cond.code ({ cls := "java/lang/Exception", name := "<init>", desc := "(Ljava/lang/String;Ljava/lang/Throwable;ZZ)V" } : Jvm.MethodName) jdk_59_method_5_code (5 : Nat) (Option.none : Option Jvm.ClassFile.FieldType), Jvm.Cond.code ({ cls := "java/lang/Throwable", name := "<init>", desc := "(Ljava/lang/String;Ljava/lang/Throwable;ZZ)V" } : Jvm.MethodName) jdk_78_method_5_code (5 : Nat) (Option.none : Option Jvm.ClassFile.FieldType), Jvm.Cond.code ({ cls := "com/example/tokenward/tokenward/ApiException", name := "status", desc := "()I" } : Jvm.MethodName) prog_1_method_6_code (1 : Nat) (Option.some Jvm.ClassFile.FieldType.int), Jvm.Cond.code ({ cls := "java/lang/Throwable", name := "getMessage", desc := "()Ljava/lang/String;" } : Jvm.MethodName) jdk_78_method_6_code (1 : Nat) (Option.some (Jvm.ClassFile.FieldType.object "java/lang/String")), Jvm.Cond.code ({ cls := "java/lang/StringUTF16", name := "compress", desc := "([CII)[B" } : Jvm.MethodName) jdk_52_method_16_code (6 : Nat) (Option.some (Jvm.ClassFile.FieldType.array Jvm.ClassFile.FieldType.byte)), Jvm.Cond.code ({ cls := "java/lang/StringUTF16", name := "compress", desc := "([CI[BII)I" } : Jvm.MethodName) jdk_52_method_21_code (7 : Nat) (Option.some Jvm.ClassFile.FieldType.int), Jvm.Cond.code ({ cls := "java/lang/StringUTF16", name := "coderFromArrayLen", desc := "([BI)B" } : Jvm.MethodName) jdk_52_method_15_code (2 : Nat) (Option.some Jvm.ClassFile.FieldType.byte)]
set_option maxRecDepth 65536 in
theorem codes_eq : words1.filter isCode = codes1 := rfl
theorem w_codes : ∀ c ∈ words1.filter isCode, c.before args0 about1 = true := by
  rw [codes_eq]
  intro c hc
  simp only [codes1, List.mem_cons, List.not_mem_nil, or_false] at hc
  rcases hc with rfl | rfl | rfl | rfl | rfl | rfl | rfl | rfl | rfl | rfl | rfl | rfl | rfl | rfl | rfl
  · exact w_c0
  · exact w_c1
  · exact w_c2
  · exact w_c3
  · exact w_c4
  · exact w_c5
  · exact w_c6
  · exact w_c7
  · exact w_c8
  · exact w_c9
  · exact w_c10
  · exact w_c11
  · exact w_c12
  · exact w_c13
  · exact w_c14
set_option maxRecDepth 65536 in
theorem w_t1 : (words1.take 24).all (fun c => isCode c || c.before args0 about1) = true := by decide +kernel
set_option maxRecDepth 65536 in
theorem w_t2 : ((words1.drop 24).take 24).all (fun c => isCode c || c.before args0 about1) = true := by decide +kernel
set_option maxRecDepth 65536 in
theorem w_t3 : (((words1.drop 24).drop 24).take 24).all (fun c => isCode c || c.before args0 about1) = true := by decide +kernel
set_option maxRecDepth 65536 in
theorem w_t4 : (((words1.drop 24).drop 24).drop 24).all (fun c => isCode c || c.before args0 about1) = true := by decide +kernel
theorem w_tables : (allAtoms (Jvm.Cond.code x code maxLocals ret :: tables_1)).before args0 about1 = true := by
  rw [allAtoms_all]
  show words1.all (fun c => c.before args0 about1) = true
  refine all_split ?_ w_codes
  rw [← List.take_append_drop 24 words1, List.all_append, w_t1, ← List.take_append_drop 24 (words1.drop 24), List.all_append, w_t2, ← List.take_append_drop 24 ((words1.drop 24).drop 24), List.all_append, w_t3, w_t4]
  rfl
set_option maxRecDepth 65536 in
theorem w_rest : rest_1_c.before args0 about1 = true := by decide +kernel
set_option maxRecDepth 65536 in
theorem w_case : (Jvm.Cond.and given_1 narrow_1).before args0 about1 = true := by decide +kernel
set_option maxRecDepth 65536 in
theorem w_consts : constsHeld consts_1 about1 := Jvm.Lit.constsHeldB_iff.mp (by decide +kernel)
theorem w_applies : (headSpec (Jvm.Cond.code x code maxLocals ret :: tables_1) room_1).applies x e0.platform about1 = true :=
  (Spec.applies_iff w_frames).mpr ⟨w_running, w_runnable, w_alone, w_named, w_hears, w_ripe, w_room, w_tables⟩
theorem atStart : AtStart classFile x code maxLocals ret World_1 tables_1 room_1 Calls_1 rest_1 Pre_1 launch0 p0 e0 about1 theMethod args0 below0 :=
  ⟨lists_1, trivial, launch0.admits_env _ _ _, launch0.least_env, fairChoices_fair.cas, fairChoices_fair.clock, w_frames, w_args, w_heap, w_applies, ⟨w_consts, trivial⟩, w_rest, w_case⟩
end start1
theorem witness_1 : WitnessClaimed_1 := ⟨start1.p0, start1.e0, start1.about1, start1.theMethod, start1.args0, start1.below0, start1.atStart⟩
end Jvm.Pilot.@@N@@
