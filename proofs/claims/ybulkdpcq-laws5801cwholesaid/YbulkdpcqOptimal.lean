/-
  'optimal' (function 12): what it reckons as plain functions of the counts, and the walk.
-/
import Derived.Test.YbulkdpcqFloat
import Derived.Test.YbulkdpcqCount
namespace Go.Proofs.Ybulkdpcq
open Go.RowKit

def sumF (C : Nat → Nat) : Nat → Nat
  | 0 => 0
  | t + 1 => if 0 < C t then fa (sumF C t) 4607182418800017408 else sumF C t
def sumL (C : Nat → Nat) : Nat → Nat
  | 0 => 0
  | t + 1 => if C t = 1 then fa (sumL C t) 4607182418800017408 else if 2 ≤ C t then fa (sumL C t) (fq 4611686018427387904 (floatOfInt .f64 (C t))) else sumL C t
def intL (C : Nat → Nat) : Nat → Nat
  | 0 => 0
  | t + 1 => if 2 ≤ C t then intL C t + (C t - 2) else intL C t
def leftL (C : Nat → Nat) : Nat → Nat
  | 0 => 0
  | t + 1 => if 2 ≤ C t then fa (leftL C t) (fq (floatOfInt .f64 (((C t : Int) - 2) * ((C t : Int) - 2))) (floatOfInt .f64 (C t))) else leftL C t
def finL (C : Nat → Nat) (n : Nat) : Nat := if 0 < intL C n then fa (sumL C n) (fq (leftL C n) (floatOfInt .f64 (intL C n))) else sumL C n
def tot (isF isL : Bool) (C : Nat → Nat) (n : Nat) : Nat := if isF = true then sumF C n else if isL = true then finL C n else 0

section
variable (C : Nat → Nat) (hC : ∀ t, C t ≤ 4096)
theorem sumF_fine : ∀ t, Fine (sumF C t)
  | 0 => zero_fine
  | t + 1 => by
    unfold sumF
    split
    · exact fa_fine (sumF_fine t) one_fine
    · exact sumF_fine t
set_option maxRecDepth 20000 in
theorem intL_le (hC : ∀ t, C t ≤ 4096) : ∀ t, intL C t ≤ t * 4096
  | 0 => Nat.le_refl _
  | t + 1 => by
    have := intL_le hC t
    have := hC t
    unfold intL
    split <;> omega
theorem sumL_fine (hC : ∀ t, C t ≤ 4096) : ∀ t, Fine (sumL C t)
  | 0 => zero_fine
  | t + 1 => by
    have := hC t
    unfold sumL
    split
    · exact fa_fine (sumL_fine hC t) one_fine
    · split
      · exact fa_fine (sumL_fine hC t) (fq_fine two_fine (ofInt_firm (by omega) (by omega)))
      · exact sumL_fine hC t
theorem leftL_fine (hC : ∀ t, C t ≤ 4096) : ∀ t, Fine (leftL C t)
  | 0 => zero_fine
  | t + 1 => by
    have := hC t
    unfold leftL
    split
    · exact fa_fine (leftL_fine hC t) (fq_fine (ofInt_fine (Int.mul_nonneg (by omega) (by omega))) (ofInt_firm (by omega) (by omega)))
    · exact leftL_fine hC t
theorem finL_fine (hC : ∀ t, C t ≤ 4096) (n : Nat) (hn : n ≤ 4096) : Fine (finL C n) := by
  have := intL_le C hC n
  unfold finL
  split
  · exact fa_fine (sumL_fine C hC n) (fq_fine (leftL_fine C hC n) (ofInt_firm (by omega) (by omega)))
  · exact sumL_fine C hC n
theorem tot_fine (hC : ∀ t, C t ≤ 4096) (n : Nat) (hn : n ≤ 4096) (isF isL : Bool) : Fine (tot isF isL C n) := by
  unfold tot
  split
  · exact sumF_fine C n
  · split
    · exact finL_fine C hC n hn
    · exact zero_fine
theorem sumF_zero (h : ∀ t, C t = 0) : ∀ t, sumF C t = 0
  | 0 => rfl
  | t + 1 => by simp [sumF, h t, sumF_zero h t]
theorem sumL_zero (h : ∀ t, C t = 0) : ∀ t, sumL C t = 0
  | 0 => rfl
  | t + 1 => by simp [sumL, h t, sumL_zero h t]
theorem intL_zero (h : ∀ t, C t = 0) : ∀ t, intL C t = 0
  | 0 => rfl
  | t + 1 => by simp [intL, h t, intL_zero h t]
theorem tot_zero (h : ∀ t, C t = 0) (n : Nat) (isF isL : Bool) : tot isF isL C n = 0 := by
  simp [tot, finL, sumF_zero C h n, sumL_zero C h n, intL_zero C h n]
end

/-- What is known of the float that comes back. -/
def Got (isF isL : Bool) (C : Nat → Nat) (n h : Nat) (r : Nat) : Prop :=
  (0 < h → r = fq (tot isF isL C n) (floatOfInt .f64 h)) ∧ (h = 0 → FloatKind.f64.format.order r r = none)

theorem int_eq {k : IntKind} {a b : Int} (h : a = b) : Value.int k a = .int k b := by rw [h]

theorem done_row {w w1 w2 : World} {g n : Nat} {f : Nat → Value} (h : w1.rowIs g 3 n f) (hg : w.grownBy w1 (some g)) (hw : w2 = w1 ∨ w2 = w1.drew) : w2.rowIs g 3 n f ∧ w.grownBy w2 (some g) := by
  rcases hw with rfl | rfl
  · exact ⟨h, hg⟩
  · exact ⟨h, ⟨hg.os, hg.tape, hg.output, hg.size, hg.block⟩⟩

set_option maxHeartbeats 400000 in
set_option maxRecDepth 100000 in
theorem optimal_full (w : World) (aS : Option Addr) (n capS : Nat) (S : Nat → Bool) (gE : Nat) (E : Nat → Int) (gC : Nat) (F : Nat → Value) (hn : n ≤ 4096)
    (hS : CameIn w aS n (fun i => .bool (S i))) (hne : 0 < n → ∀ b off, aS = some ⟨b, off, none⟩ → b ≠ gC) (hE : w.rowIs gE 3 n (fun i => .int .i64 (E i))) (hEC : gE ≠ gC) (hC : w.rowIs gC 3 n F)
    (hin : ∀ v, v < n → S v = false → E v < (n : Int)) :
    Calls Yba.prog 12 #[.slice aS n capS, .slice (some ⟨gE, 0, none⟩) n n, .string ⟨#[102, 117, 108, 108]⟩, .slice (some ⟨gC, 0, none⟩) n n] w fun e w' =>
      ∃ r, e = .returned (.float .f64 r) ∧ Got true false (fun t => cnt S E t n) n (hon S n) r ∧ w'.rowIs gC 3 n (fun t => .int .i64 (cnt S E t n)) ∧ w.grownBy w' (some gC) := by
  go_enter Yba.func12, Yba.ntmps12
  go_wp2_with fail
  refine (count_any w aS n capS S gE E gC n F (by omega) (by omega) hS hne hE hEC hC hin).mono ?_
  rintro e w1 ⟨rfl, hrow, hgr⟩
  have hcb : ∀ t, cnt S E t n ≤ 4096 := fun t => by have := cnt_le S E t n; have := hon_le S n; omega
  have hhon := hon_le S n
  obtain ⟨r, W', hq, hW', hr1, hr0⟩ := quo_any (P := Yba.prog) (sumF (fun t => cnt S E t n) n) (hon S n) (sumF_fine _ n) (by omega) (by omega) (fun h => sumF_zero _ (fun t => by have := cnt_le S E t n; omega) n) 46
  go_wp2_with fail
  go_loopg [10, 26] n (fun q s i wr => ∃ k : Nat, k ≤ n ∧ q = n - k ∧ i = .int .i64 k ∧ s = .float .f64 (sumF (fun t => cnt S E t n) k) ∧ wr = w1)
  case atStart => exact ⟨0, Nat.zero_le _, by omega, rfl, rfl, rfl⟩
  case round =>
    obtain ⟨k, hk, rfl, rfl, rfl, rfl⟩ := hrel
    by_cases hlt : k < n
    · have hck := hrow.cell hlt
      have hadd := run_fa (P := Yba.prog) (sumF_fine (fun t => cnt S E t n) k) one_fine 46
      have HS : Hid (sumF (fun t => cnt S E t n) (k + 1) = if 0 < cnt S E k n then fa (sumF (fun t => cnt S E t n) k) 4607182418800017408 else sumF (fun t => cnt S E t n) k) := (rfl : sumF (fun t => cnt S E t n) (k + 1) = _)
      by_cases hp : 0 < cnt S E k n
      · rw [if_pos hp] at HS
        go_wp2_with fail
        go_roundg (n - (k + 1))
        case measure => omega
        case rel => exact ⟨k + 1, by omega, rfl, by go_num, by rw [HS.out], rfl⟩
      · rw [if_neg hp] at HS
        go_wp2_with fail
        go_roundg (n - (k + 1))
        case measure => omega
        case rel => exact ⟨k + 1, by omega, rfl, by go_num, by rw [HS.out], rfl⟩
    · obtain rfl : k = n := by omega
      go_wp2_with fail
      go_ret
      exact ⟨_, rfl, ⟨fun h => hr1 (by omega) _, fun h => hr0 (by omega) _⟩, done_row hrow hgr (hW' _)⟩
set_option maxHeartbeats 400000 in
set_option maxRecDepth 100000 in
theorem optimal_local (w : World) (aS : Option Addr) (n capS : Nat) (S : Nat → Bool) (gE : Nat) (E : Nat → Int) (gC : Nat) (F : Nat → Value) (hn : n ≤ 4096)
    (hS : CameIn w aS n (fun i => .bool (S i))) (hne : 0 < n → ∀ b off, aS = some ⟨b, off, none⟩ → b ≠ gC) (hE : w.rowIs gE 3 n (fun i => .int .i64 (E i))) (hEC : gE ≠ gC) (hC : w.rowIs gC 3 n F)
    (hin : ∀ v, v < n → S v = false → E v < (n : Int)) :
    Calls Yba.prog 12 #[.slice aS n capS, .slice (some ⟨gE, 0, none⟩) n n, .string ⟨#[108, 111, 99, 97, 108]⟩, .slice (some ⟨gC, 0, none⟩) n n] w fun e w' =>
      ∃ r, e = .returned (.float .f64 r) ∧ Got false true (fun t => cnt S E t n) n (hon S n) r ∧ w'.rowIs gC 3 n (fun t => .int .i64 (cnt S E t n)) ∧ w.grownBy w' (some gC) := by
  go_enter Yba.func12, Yba.ntmps12
  go_wp2_with fail
  refine (count_any w aS n capS S gE E gC n F (by omega) (by omega) hS hne hE hEC hC hin).mono ?_
  rintro e w1 ⟨rfl, hrow, hgr⟩
  have hcb : ∀ t, cnt S E t n ≤ 4096 := fun t => by have := cnt_le S E t n; have := hon_le S n; omega
  have hhon := hon_le S n
  have hint := intL_le (fun t => cnt S E t n) hcb n
  have hz : hon S n = 0 → finL (fun t => cnt S E t n) n = 0 := fun h => tot_zero (fun t => cnt S E t n) (fun t => by have := cnt_le S E t n; omega) n false true
  obtain ⟨r, W', hq, hW', hr1, hr0⟩ := quo_any (P := Yba.prog) (finL (fun t => cnt S E t n) n) (hon S n) (finL_fine _ hcb n hn) (by omega) (by omega) (fun h => hz (by omega)) 46
  clear hz
  go_wp2_with fail
  go_loopg [10, 13, 14, 39] n (fun q s iL lL i wr => ∃ k : Nat, k ≤ n ∧ q = n - k ∧ i = .int .i64 k ∧ s = .float .f64 (sumL (fun t => cnt S E t n) k) ∧ iL = .int .i64 (intL (fun t => cnt S E t n) k) ∧ lL = .float .f64 (leftL (fun t => cnt S E t n) k) ∧ wr = w1)
  case atStart => exact ⟨0, Nat.zero_le _, by omega, rfl, rfl, rfl, rfl, rfl⟩
  case round =>
    obtain ⟨k, hk, rfl, rfl, rfl, rfl, rfl, rfl⟩ := hrel
    by_cases hlt : k < n
    · have hck := hrow.cell hlt
      have hik := intL_le (fun t => cnt S E t n) hcb k
      have hckb := hcb k
      have hsF := sumL_fine (fun t => cnt S E t n) hcb k
      have hlF := leftL_fine (fun t => cnt S E t n) hcb k
      clear hint hq hr1 hr0 hW' hcb
      by_cases h1 : cnt S E k n = 1
      · have HS : Hid (sumL (fun t => cnt S E t n) (k + 1) = fa (sumL (fun t => cnt S E t n) k) 4607182418800017408) := show sumL (fun t => cnt S E t n) (k + 1) = _ by simp [sumL, h1]
        have HI : Hid (intL (fun t => cnt S E t n) (k + 1) = intL (fun t => cnt S E t n) k) := show intL (fun t => cnt S E t n) (k + 1) = _ by simp [intL, h1]
        have HL : Hid (leftL (fun t => cnt S E t n) (k + 1) = leftL (fun t => cnt S E t n) k) := show leftL (fun t => cnt S E t n) (k + 1) = _ by simp [leftL, h1]
        have hadd := run_fa (P := Yba.prog) hsF one_fine 46
        rw [h1] at hck
        clear hckb h1
        go_wp2_with fail
        go_roundg (n - (k + 1))
        case measure => omega
        case rel => exact ⟨k + 1, by omega, rfl, by go_num, by rw [HS.out], by rw [HI.out], by rw [HL.out], rfl⟩
      by_cases h2 : 2 ≤ cnt S E k n
      · have HS : Hid (sumL (fun t => cnt S E t n) (k + 1) = fa (sumL (fun t => cnt S E t n) k) (fq 4611686018427387904 (floatOfInt .f64 (cnt S E k n)))) := show sumL (fun t => cnt S E t n) (k + 1) = _ by simp [sumL, h1, h2]
        have HI : Hid (intL (fun t => cnt S E t n) (k + 1) = intL (fun t => cnt S E t n) k + (cnt S E k n - 2)) := show intL (fun t => cnt S E t n) (k + 1) = _ by simp [intL, h2]
        have HL : Hid (leftL (fun t => cnt S E t n) (k + 1) = fa (leftL (fun t => cnt S E t n) k) (fq (floatOfInt .f64 (((cnt S E k n : Int) - 2) * ((cnt S E k n : Int) - 2))) (floatOfInt .f64 (cnt S E k n)))) := show leftL (fun t => cnt S E t n) (k + 1) = _ by simp [leftL, h2]
        generalize cnt S E k n = c at *
        have hm0 : 0 ≤ ((c : Int) - 2) * ((c : Int) - 2) := Int.mul_nonneg (by omega) (by omega)
        have hm1 : ((c : Int) - 2) * ((c : Int) - 2) ≤ 4096 * 4096 := Int.mul_le_mul (by omega) (by omega) (by omega) (by omega)
        have hfc := ofInt_firm (n := (c : Int)) (by omega) (by omega)
        have hq1 := run_fq (P := Yba.prog) two_fine hfc 46
        have ha1 := run_fa (P := Yba.prog) hsF (fq_fine two_fine hfc) 46
        have hq2 := run_fq (P := Yba.prog) (ofInt_fine hm0) hfc 46
        have ha2 := run_fa (P := Yba.prog) hlF (fq_fine (ofInt_fine hm0) hfc) 46
        go_wp2_with fail
        go_roundg (n - (k + 1))
        case measure => omega
        case rel => exact ⟨k + 1, by omega, rfl, by go_num, by rw [HS.out], by rw [HI.out]; exact int_eq (by omega), by rw [HL.out], rfl⟩
      · have h0 : cnt S E k n = 0 := by omega
        have HS : Hid (sumL (fun t => cnt S E t n) (k + 1) = sumL (fun t => cnt S E t n) k) := show sumL (fun t => cnt S E t n) (k + 1) = _ by simp [sumL, h0]
        have HI : Hid (intL (fun t => cnt S E t n) (k + 1) = intL (fun t => cnt S E t n) k) := show intL (fun t => cnt S E t n) (k + 1) = _ by simp [intL, h0]
        have HL : Hid (leftL (fun t => cnt S E t n) (k + 1) = leftL (fun t => cnt S E t n) k) := show leftL (fun t => cnt S E t n) (k + 1) = _ by simp [leftL, h0]
        rw [h0] at hck
        clear hckb h0 h1 h2
        go_wp2_with fail
        go_roundg (n - (k + 1))
        case measure => omega
        case rel => exact ⟨k + 1, by omega, rfl, by go_num, by rw [HS.out], by rw [HI.out], by rw [HL.out], rfl⟩
    · obtain rfl : k = n := by omega
      have hsF := sumL_fine (fun t => cnt S E t k) hcb k
      have hlF := leftL_fine (fun t => cnt S E t k) hcb k
      have HG : Hid (∀ w0, Got false true (fun t => cnt S E t k) k (hon S k) (r w0)) := fun w0 => ⟨fun h => hr1 (by omega) w0, fun h => hr0 (by omega) w0⟩
      clear hr1 hr0 hcb
      by_cases hp : 0 < intL (fun t => cnt S E t k) k
      · have hfc := ofInt_firm (n := (intL (fun t => cnt S E t k) k : Int)) (by omega) (by omega)
        have hq1 := run_fq (P := Yba.prog) hlF hfc 46
        have ha1 := run_fa (P := Yba.prog) hsF (fq_fine hlF hfc) 46
        rw [finL, if_pos hp] at hq
        go_wp2_with fail
        go_ret
        exact ⟨_, rfl, HG.out _, done_row hrow hgr (hW' _)⟩
      · rw [finL, if_neg hp] at hq
        go_wp2_with fail
        go_ret
        exact ⟨_, rfl, HG.out _, done_row hrow hgr (hW' _)⟩

set_option maxHeartbeats 400000 in
set_option maxRecDepth 100000 in
theorem optimal_other (w : World) (aS : Option Addr) (n capS : Nat) (S : Nat → Bool) (gE : Nat) (E : Nat → Int) (gC : Nat) (F : Nat → Value) (hn : n ≤ 4096)
    (hS : CameIn w aS n (fun i => .bool (S i))) (hne : 0 < n → ∀ b off, aS = some ⟨b, off, none⟩ → b ≠ gC) (hE : w.rowIs gE 3 n (fun i => .int .i64 (E i))) (hEC : gE ≠ gC) (hC : w.rowIs gC 3 n F)
    (ks : ByteArray) (hkF : (ks.toList == [102, 117, 108, 108]) = false) (hkL : (ks.toList == [108, 111, 99, 97, 108]) = false)
    (hin : ∀ v, v < n → S v = false → E v < (n : Int)) :
    Calls Yba.prog 12 #[.slice aS n capS, .slice (some ⟨gE, 0, none⟩) n n, .string ks, .slice (some ⟨gC, 0, none⟩) n n] w fun e w' =>
      ∃ r, e = .returned (.float .f64 r) ∧ Got false false (fun t => cnt S E t n) n (hon S n) r ∧ w'.rowIs gC 3 n (fun t => .int .i64 (cnt S E t n)) ∧ w.grownBy w' (some gC) := by
  go_enter Yba.func12, Yba.ntmps12
  go_wp2_with fail
  refine (count_any w aS n capS S gE E gC n F (by omega) (by omega) hS hne hE hEC hC hin).mono ?_
  rintro e w1 ⟨rfl, hrow, hgr⟩
  have hhon := hon_le S n
  obtain ⟨r, W', hq, hW', hr1, hr0⟩ := quo_any (P := Yba.prog) 0 (hon S n) zero_fine (by omega) (by omega) (fun _ => rfl) 46
  go_wp2_with fail
  go_ret
  exact ⟨_, rfl, ⟨fun h => hr1 (by omega) _, fun h => hr0 (by omega) _⟩, done_row hrow hgr (hW' _)⟩
/-- Which of the three the knowledge is. -/
def KindIs (isF isL : Bool) (ks : ByteArray) : Prop :=
  (isF = true ∧ isL = false ∧ ks = ⟨#[102, 117, 108, 108]⟩) ∨ (isF = false ∧ isL = true ∧ ks = ⟨#[108, 111, 99, 97, 108]⟩) ∨
    (isF = false ∧ isL = false ∧ (ks.toList == [102, 117, 108, 108]) = false ∧ (ks.toList == [108, 111, 99, 97, 108]) = false)

theorem KindIs.full {isF isL : Bool} {ks : ByteArray} (h : KindIs isF isL ks) : (ks.toList == [102, 117, 108, 108]) = isF := by
  rcases h with ⟨rfl, rfl, rfl⟩ | ⟨rfl, rfl, rfl⟩ | ⟨rfl, rfl, h, _⟩
  · decide +kernel
  · decide +kernel
  · exact h
theorem KindIs.loc {isF isL : Bool} {ks : ByteArray} (h : KindIs isF isL ks) : (ks.toList == [108, 111, 99, 97, 108]) = isL := by
  rcases h with ⟨rfl, rfl, rfl⟩ | ⟨rfl, rfl, rfl⟩ | ⟨rfl, rfl, _, h⟩
  · decide +kernel
  · decide +kernel
  · exact h

theorem optimal_any (w : World) (aS : Option Addr) (n capS : Nat) (S : Nat → Bool) (gE : Nat) (E : Nat → Int) (gC : Nat) (F : Nat → Value) (hn : n ≤ 4096)
    (hS : CameIn w aS n (fun i => .bool (S i))) (hne : 0 < n → ∀ b off, aS = some ⟨b, off, none⟩ → b ≠ gC) (hE : w.rowIs gE 3 n (fun i => .int .i64 (E i))) (hEC : gE ≠ gC) (hC : w.rowIs gC 3 n F)
    (hin : ∀ v, v < n → S v = false → E v < (n : Int)) (isF isL : Bool) (ks : ByteArray) (hk : KindIs isF isL ks) :
    Calls Yba.prog 12 #[.slice aS n capS, .slice (some ⟨gE, 0, none⟩) n n, .string ks, .slice (some ⟨gC, 0, none⟩) n n] w fun e w' =>
      ∃ r, e = .returned (.float .f64 r) ∧ Got isF isL (fun t => cnt S E t n) n (hon S n) r ∧ w'.rowIs gC 3 n (fun t => .int .i64 (cnt S E t n)) ∧ w.grownBy w' (some gC) := by
  rcases hk with ⟨rfl, rfl, rfl⟩ | ⟨rfl, rfl, rfl⟩ | ⟨rfl, rfl, h1, h2⟩
  · exact optimal_full w aS n capS S gE E gC F hn hS hne hE hEC hC hin
  · exact optimal_local w aS n capS S gE E gC F hn hS hne hE hEC hC hin
  · exact optimal_other w aS n capS S gE E gC F hn hS hne hE hEC hC ks h1 h2 hin
end Go.Proofs.Ybulkdpcq
