/-
  Floats of 64 bits that are no NaN and not below zero: sums and quotients of such. Plain: no Go text is walked here.
-/
import Derived.Laws.FloatArith
import Derived.WalkKit
namespace Go.Proofs.Ybulkdpcq
open Ieee

/-- The word of a number that is not below zero, or of the positive infinity. -/
def Fine (x : Nat) : Prop := x ≤ double.infRung
/-- The word of a number above zero, no infinity. -/
def Firm (x : Nat) : Prop := 0 < x ∧ x < double.infRung

theorem read_fine {x : Nat} (h : Fine x) : (∃ m p, double.read x = .number false m p) ∨ double.read x = .infinity false := by
  have hs : x < double.signWeight := Nat.lt_of_le_of_lt h double.infRung_lt
  have h0 : x / double.signWeight = 0 := Nat.div_eq_of_lt hs
  have h1 : x % double.signWeight = x := Nat.mod_eq_of_lt hs
  unfold Format.read
  simp only [h0, h1]
  by_cases h2 : x < double.binade
  · rw [if_pos h2]; exact .inl ⟨_, _, rfl⟩
  · rw [if_neg h2]
    by_cases h3 : x < double.infRung
    · rw [if_pos h3]; exact .inl ⟨_, _, rfl⟩
    · rw [if_neg h3, if_pos (Nat.le_antisymm h (Nat.le_of_not_lt h3))]; exact .inr rfl

theorem read_firm {x : Nat} (h : Firm x) : ∃ m p, double.read x = .number false m p ∧ m ≠ 0 := by
  have hs : x < double.signWeight := Nat.lt_trans h.2 double.infRung_lt
  have h0 : x / double.signWeight = 0 := Nat.div_eq_of_lt hs
  have h1 : x % double.signWeight = x := Nat.mod_eq_of_lt hs
  unfold Format.read
  simp only [h0, h1]
  by_cases h2 : x < double.binade
  · rw [if_pos h2]; exact ⟨_, _, rfl, Nat.ne_of_gt h.1⟩
  · rw [if_neg h2, if_pos h.2]
    refine ⟨_, _, rfl, ?_⟩
    have : 0 < double.binade := Nat.two_pow_pos _
    omega

theorem nearest_fine (m : Nat) (p : Int) : Fine (double.nearest false m p) := by
  unfold Fine Format.nearest
  dsimp only
  split
  · simp [Format.word]
  · simp only [Format.word, Bool.false_eq_true, if_false]
    exact Nat.min_le_right _ _

theorem inf_fine : Fine (double.write (.infinity false)) := by simp [Fine, Format.write, Format.word]

theorem add_fine {x y : Nat} (hx : Fine x) (hy : Fine y) : ∃ r, floatBits .add .f64 x y = some r ∧ Fine r := by
  show ∃ r, ((double.read x).sum (double.read y)).map double.write = some r ∧ Fine r
  rcases read_fine hx with ⟨m, i, hx'⟩ | hx' <;> rcases read_fine hy with ⟨n, j, hy'⟩ | hy' <;> rw [hx', hy']
  · refine ⟨_, rfl, ?_⟩
    show Fine (double.nearest _ _ _)
    have hn : (if signed false m (i - min i j).toNat + signed false n (j - min i j).toNat = 0 then false && false else decide (signed false m (i - min i j).toNat + signed false n (j - min i j).toNat < 0)) = false := by
      have h : 0 ≤ signed false m (i - min i j).toNat + signed false n (j - min i j).toNat := by
        simp only [signed, Bool.false_eq_true, if_false]
        exact Int.add_nonneg (Int.natCast_nonneg _) (Int.natCast_nonneg _)
      split
      · rfl
      · exact decide_eq_false (by omega)
    rw [hn]
    exact nearest_fine _ _
  · exact ⟨_, rfl, inf_fine⟩
  · exact ⟨_, rfl, inf_fine⟩
  · exact ⟨_, rfl, inf_fine⟩

theorem div_fine {x y : Nat} (hx : Fine x) (hy : Firm y) : ∃ r, floatBits .quo .f64 x y = some r ∧ Fine r := by
  show ∃ r, ((double.read x).quotient (double.fractionBits + 2) (double.read y)).map double.write = some r ∧ Fine r
  obtain ⟨n, j, hy', hn⟩ := read_firm hy
  rcases read_fine hx with ⟨m, i, hx'⟩ | hx' <;> rw [hx', hy']
  · simp only [Datum.quotient, if_neg hn]
    exact ⟨_, rfl, nearest_fine _ _⟩
  · exact ⟨_, rfl, inf_fine⟩

theorem order_fine {x : Nat} (hx : Fine x) : FloatKind.f64.format.order x x = some .eq := by
  show (double.read x).order (double.read x) = some .eq
  rcases read_fine hx with ⟨m, i, hx'⟩ | hx' <;> rw [hx']
  · simp [Datum.order]
  · simp [Datum.order]

theorem zero_fine : Fine 0 := Nat.zero_le _
theorem one_fine : Fine 4607182418800017408 := by
  unfold Fine
  decide +kernel
theorem two_fine : Fine 4611686018427387904 := by
  unfold Fine
  decide +kernel

theorem ofInt_fine {n : Int} (h : 0 ≤ n) : Fine (floatOfInt .f64 n) := by
  show Fine (double.nearest (decide (n < 0)) n.natAbs 0)
  rw [decide_eq_false (by omega)]
  exact nearest_fine _ _

theorem ofInt_zero : floatOfInt .f64 0 = 0 := by decide +kernel
theorem zero_zero : floatBits .quo .f64 0 0 = none := by decide +kernel

theorem ofInt_firm {n : Int} (h : 1 ≤ n) (h2 : n ≤ 1073741824) : Firm (floatOfInt .f64 n) := by
  show Firm (double.nearest (decide (n < 0)) n.natAbs 0)
  rw [decide_eq_false (by omega)]
  obtain ⟨m, hm⟩ : ∃ m, n.natAbs = m := ⟨_, rfl⟩
  rw [hm]
  have h1 : 1 ≤ m := by omega
  have h3 : m < 2 ^ 31 := by omega
  have hl : m.log2 < 31 := (Nat.log2_lt (by omega)).2 h3
  have hle : 2 ^ m.log2 ≤ m := Nat.log2_self_le (by omega)
  unfold Format.nearest
  rw [if_neg (by omega)]
  have e1 : max ((0 : Int) + (m.log2 : Int) - (double.fractionBits : Int)) double.leastPlace = (m.log2 : Int) - 52 := by
    have a : (double.fractionBits : Int) = 52 := rfl
    have b : double.leastPlace = -1074 := by decide +kernel
    rw [a, b]
    omega
  simp only [e1]
  have e2 : ((m.log2 : Int) - 52 - double.leastPlace).toNat = m.log2 + 1022 := by
    have b : double.leastPlace = -1074 := by decide +kernel
    rw [b]
    omega
  have e3 : ((m.log2 : Int) - 52 - 0).toNat = 0 := by omega
  have e4 : ((0 : Int) - ((m.log2 : Int) - 52)).toNat = 52 - m.log2 := by omega
  rw [e2, e3, e4]
  have cut0 : ∀ k : Nat, Toward.even.cut false k 0 = k := by
    intro k
    simp [Toward.cut, Nat.mod_one]
  rw [cut0, Nat.shiftLeft_eq]
  have k1 : 0 < m * 2 ^ (52 - m.log2) := Nat.mul_pos (by omega) (Nat.two_pow_pos _)
  have k2 : m * 2 ^ (52 - m.log2) < 9007199254740992 := by
    have : m < 2 ^ (m.log2 + 1) := Nat.lt_log2_self
    have h5 : m * 2 ^ (52 - m.log2) < 2 ^ (m.log2 + 1) * 2 ^ (52 - m.log2) := Nat.mul_lt_mul_of_pos_right this (Nat.two_pow_pos _)
    rw [← Nat.pow_add, show m.log2 + 1 + (52 - m.log2) = 53 by omega] at h5
    exact h5
  have k3 : (m.log2 + 1022) * double.binade ≤ 4737786807993761792 := by
    have h6 : (m.log2 + 1022) * double.binade ≤ 1052 * double.binade := Nat.mul_le_mul_right _ (by omega)
    have h7 : 1052 * double.binade = 4737786807993761792 := by decide +kernel
    omega
  have k4 : double.infRung = 9218868437227405312 := by decide +kernel
  generalize m * 2 ^ (52 - m.log2) = K at *
  generalize (m.log2 + 1022) * double.binade = J at *
  simp only [Format.word, Bool.false_eq_true, if_false, Firm]
  rw [k4, Nat.min_eq_left (by omega)]
  exact ⟨by omega, by omega⟩

/-- Whatever the tape says, what an undefined operation hands back is a NaN. -/
theorem nan_order (t : Nat) : FloatKind.f64.format.order ((t % 2) * 2 ^ 63 + 0x7ff0000000000000 + 1 + (t / 2) % (2 ^ 52 - 1)) ((t % 2) * 2 ^ 63 + 0x7ff0000000000000 + 1 + (t / 2) % (2 ^ 52 - 1)) = none := by
  show (double.read _).order (double.read _) = none
  have hr : ∃ s f, double.read ((t % 2) * 2 ^ 63 + 0x7ff0000000000000 + 1 + (t / 2) % (2 ^ 52 - 1)) = .nan s f := by
    obtain ⟨q, hq⟩ : ∃ q, q = (t / 2) % (2 ^ 52 - 1) := ⟨_, rfl⟩
    have hq2 : q < 2 ^ 52 - 1 := by rw [hq]; exact Nat.mod_lt _ (by decide)
    rw [← hq]
    have hw : double.signWeight = 9223372036854775808 := by decide +kernel
    have hb : double.binade = 4503599627370496 := by decide +kernel
    have hi : double.infRung = 9218868437227405312 := by decide +kernel
    unfold Format.read
    have hm : ((t % 2) * 2 ^ 63 + 0x7ff0000000000000 + 1 + q) % double.signWeight = 0x7ff0000000000000 + 1 + q := by
      rw [hw]; omega
    simp only [hm]
    rw [if_neg (by rw [hb]; omega), if_neg (by rw [hi]; omega), if_neg (by rw [hi]; omega)]
    exact ⟨_, _, rfl⟩
  obtain ⟨s, f, h⟩ := hr
  rw [h]
  rfl

/-! ### the two operations as plain functions, and their runs -/
def fa (x y : Nat) : Nat := (floatBits .add .f64 x y).getD 0
def fq (x y : Nat) : Nat := (floatBits .quo .f64 x y).getD 0
theorem fa_fine {x y : Nat} (hx : Fine x) (hy : Fine y) : Fine (fa x y) := by
  obtain ⟨r, h, hr⟩ := add_fine hx hy
  rw [fa, h]; exact hr
theorem fq_fine {x y : Nat} (hx : Fine x) (hy : Firm y) : Fine (fq x y) := by
  obtain ⟨r, h, hr⟩ := div_fine hx hy
  rw [fq, h]; exact hr
theorem run_fa {P : Program} {x y : Nat} (hx : Fine x) (hy : Fine y) (t : TypeId) (w : World) : (binOp .add t (.float .f64 x) (.float .f64 y)).run P w = .ok (.float .f64 (fa x y)) w := by
  obtain ⟨r, h, _⟩ := add_fine hx hy
  rw [run_float_arith w .add t .f64 x y r h, fa, h]; rfl
theorem run_fq {P : Program} {x y : Nat} (hx : Fine x) (hy : Firm y) (t : TypeId) (w : World) : (binOp .quo t (.float .f64 x) (.float .f64 y)).run P w = .ok (.float .f64 (fq x y)) w := by
  obtain ⟨r, h, _⟩ := div_fine hx hy
  rw [run_float_arith w .quo t .f64 x y r h, fq, h]; rfl

/-- The NaN that the tape gives for 0 / 0. -/
def nanOf (w : World) : Nat := Question.cut (.nanBits .f64 0 0) (w.tape w.drawn (.nanBits .f64 0 0))
theorem nanOf_order (w : World) : FloatKind.f64.format.order (nanOf w) (nanOf w) = none := nan_order _
theorem run_zero_zero {P : Program} (t : TypeId) (w : World) : (binOp .quo t (.float .f64 0) (.float .f64 0)).run P w = .ok (.float .f64 (nanOf w)) w.drew := by
  have h : FloatKind.f64.format.div 0 0 = none := zero_zero
  have hf : (Question.nanBits .f64 0 0).forced = false := rfl
  simp [binOp, Op.floatArith, h, nanOf, hf]

/-- 'x / float64(h)', where x is 0 if h is: the quotient, or a NaN. -/
theorem quo_any {P : Program} (T : Nat) (h : Int) (hT : Fine T) (hb : h ≤ 1073741824) (h0 : 0 ≤ h) (hz : h = 0 → T = 0) (t : TypeId) :
    ∃ (r : World → Nat) (W' : World → World), (∀ w, (binOp .quo t (.float .f64 T) (.float .f64 (floatOfInt .f64 h))).run P w = .ok (.float .f64 (r w)) (W' w)) ∧
      (∀ w, W' w = w ∨ W' w = w.drew) ∧ (0 < h → ∀ w, r w = fq T (floatOfInt .f64 h)) ∧ (h = 0 → ∀ w, FloatKind.f64.format.order (r w) (r w) = none) := by
  by_cases hh : h = 0
  · obtain rfl := hz hh
    subst hh
    rw [ofInt_zero]
    exact ⟨nanOf, World.drew, fun w => run_zero_zero t w, fun w => .inr rfl, fun h => by omega, fun _ w => nanOf_order w⟩
  · exact ⟨fun _ => fq T (floatOfInt .f64 h), fun w => w, fun w => run_fq hT (ofInt_firm (by omega) hb) t w, fun w => .inl rfl, fun _ _ => rfl, fun h => absurd h hh⟩
end Go.Proofs.Ybulkdpcq
