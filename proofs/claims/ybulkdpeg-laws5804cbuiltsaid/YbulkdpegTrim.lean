/-
  'isBlank' (function 11), the law's own table of blanks (10), 'trimBlanks' (9): the walks.
-/
import Derived.Test.YbulkdpegIdent
namespace Go.Proofs.Ybulkdpeg
open Go.RowKit

def blankB (c : Nat) : Bool := decide (c = 32 ∨ (9 ≤ c ∧ c ≤ 13))
theorem blankB_yes {c : Nat} (h : c = 32 ∨ (9 ≤ c ∧ c ≤ 13)) : blankB c = true := decide_eq_true h
theorem blankB_no {c : Nat} (h : ¬ (c = 32 ∨ (9 ≤ c ∧ c ≤ 13))) : blankB c = false := decide_eq_false h
theorem ret_bool {a b : Bool} (h : a = b) : Ending.returned (.bool a) = .returned (.bool b) := by rw [h]

theorem blank_eq {c : Nat} (k : Nat) (hk : k = 32 ∨ (9 ≤ k ∧ k ≤ 13)) (h : ((c : Int) == (k : Int)) = true) : true = blankB c := by
  have e : (c : Int) = (k : Int) := beq_iff_eq.1 h
  exact (blankB_yes (by omega)).symm
theorem blank_none {c : Nat} (h1 : ((c : Int) == 32) = false) (h2 : ((c : Int) == 9) = false) (h3 : ((c : Int) == 10) = false) (h4 : ((c : Int) == 11) = false) (h5 : ((c : Int) == 12) = false) (h6 : ((c : Int) == 13) = false) : false = blankB c := by
  have e1 := beq_eq_false_iff_ne.1 h1
  have e2 := beq_eq_false_iff_ne.1 h2
  have e3 := beq_eq_false_iff_ne.1 h3
  have e4 := beq_eq_false_iff_ne.1 h4
  have e5 := beq_eq_false_iff_ne.1 h5
  have e6 := beq_eq_false_iff_ne.1 h6
  exact (blankB_no (by omega)).symm

set_option maxHeartbeats 1000000 in
theorem blank_any (c : Nat) (w : World) (hc : c < 256) : Calls Yba.prog 10 #[.int .u8 (c : Int)] w fun e w' => e = .returned (.bool (blankB c)) ∧ w' = w := by
  have i1 : (c : Int) < 256 := by omega
  by_cases h1 : c = 32
  · have hb : ((c : Int) == 32) = true := beq_iff_eq.2 (by omega)
    have HB : Hid (true = blankB c) := (blankB_yes (.inl h1)).symm
    clear h1
    go_enter Yba.func10, Yba.ntmps10
    go_wp2
    go_ret
    exact ⟨ret_bool HB.out, rfl⟩
  · have hb : ((c : Int) == 32) = false := beq_eq_false_iff_ne.2 (by omega)
    by_cases h2 : 9 ≤ c
    · have j2 : (9 : Int) ≤ (c : Int) := by omega
      by_cases h3 : c ≤ 13
      · have j3 : (c : Int) ≤ 13 := by omega
        have HB : Hid (true = blankB c) := (blankB_yes (.inr ⟨h2, h3⟩)).symm
        clear h1
        go_enter Yba.func10, Yba.ntmps10
        go_wp2
        go_ret
        exact ⟨ret_bool HB.out, rfl⟩
      · have j3 : decide ((c : Int) ≤ 13) = false := decide_eq_false (by omega)
        have HB : Hid (false = blankB c) := (blankB_no (by omega)).symm
        clear h1
        go_enter Yba.func10, Yba.ntmps10
        go_wp2
        go_ret
        exact ⟨ret_bool HB.out, rfl⟩
    · have j2 : decide ((9 : Int) ≤ (c : Int)) = false := decide_eq_false (by omega)
      have HB : Hid (false = blankB c) := (blankB_no (by omega)).symm
      clear h1
      go_enter Yba.func10, Yba.ntmps10
      go_wp2
      go_ret
      exact ⟨ret_bool HB.out, rfl⟩

set_option maxHeartbeats 1000000 in
theorem isBlank_any (c : Nat) (w : World) (_hc : c < 256) : Calls Yba.prog 11 #[.int .u8 (c : Int)] w fun e w' => e = .returned (.bool (blankB c)) ∧ w' = w := by
  go_enter Yba.func11, Yba.ntmps11
  go_wp2
  all_goals go_ret
  all_goals first
    | exact ⟨ret_bool (blank_eq 32 (by omega) ‹((c : Int) == 32) = true›), rfl⟩
    | exact ⟨ret_bool (blank_eq 9 (by omega) ‹((c : Int) == 9) = true›), rfl⟩
    | exact ⟨ret_bool (blank_eq 10 (by omega) ‹((c : Int) == 10) = true›), rfl⟩
    | exact ⟨ret_bool (blank_eq 11 (by omega) ‹((c : Int) == 11) = true›), rfl⟩
    | exact ⟨ret_bool (blank_eq 12 (by omega) ‹((c : Int) == 12) = true›), rfl⟩
    | exact ⟨ret_bool (blank_eq 13 (by omega) ‹((c : Int) == 13) = true›), rfl⟩
    | exact ⟨ret_bool (blank_none ‹((c : Int) == 32) = false› ‹((c : Int) == 9) = false› ‹((c : Int) == 10) = false› ‹((c : Int) == 11) = false› ‹((c : Int) == 12) = false› ‹((c : Int) == 13) = false›), rfl⟩

/-- How trimBlanks cuts: k blanks, then none. -/
def Cut (s : ByteArray) (k : Nat) : Prop := k ≤ s.size ∧ (∀ i, i < k → blankB (byteAt s i) = true) ∧ (k < s.size → blankB (byteAt s k) = false)

set_option maxHeartbeats 1000000 in
theorem trim_any (s : ByteArray) (w : World) (hs : s.size ≤ 2097152) : Calls Yba.prog 9 #[.string s] w fun e w' => (∃ k, Cut s k ∧ e = .returned (.string (s.extract k s.size))) ∧ w' = w := by
  go_enter Yba.func9, Yba.ntmps9
  go_wp2_with fail
  go_loopg [3] s.size (fun q i wr => ∃ k : Nat, k ≤ s.size ∧ q = s.size - k ∧ i = .int .i64 k ∧ wr = w ∧ Hid (∀ i, i < k → blankB (byteAt s i) = true))
  case atStart => exact ⟨0, Nat.zero_le _, rfl, rfl, rfl, fun i h2 => absurd h2 (by omega)⟩
  case round =>
    obtain ⟨k, hk, rfl, rfl, rfl, HG⟩ := hrel
    by_cases hlt : k < s.size
    · have h256 := UInt8.toNat_lt (s[k]'hlt)
      have HE : Hid (byteAt s k = (s[k]'hlt).toNat) := byteAt_eq s k hlt
      cases hb : blankB (s[k]'hlt).toNat with
      | true =>
        go_wp2_with (go_at_call 11; refine (isBlank_any _ _ h256).mono ?_; rintro e w1 ⟨rfl, rfl⟩)
        go_roundg (s.size - (k + 1))
        case measure => omega
        case rel => exact ⟨k + 1, by omega, rfl, by go_num, rfl, fun i h2 => by
            by_cases e : i = k
            · rw [e, HE.out]; exact hb
            · exact HG.out i (by omega)⟩
      | false =>
        go_wp2_with (go_at_call 11; refine (isBlank_any _ _ h256).mono ?_; rintro e w1 ⟨rfl, rfl⟩)
        go_ret
        exact ⟨⟨k, ⟨hk, HG.out, fun _ => by rw [HE.out]; exact hb⟩, rfl⟩, rfl⟩
    · go_wp2_with fail
      go_ret
      exact ⟨⟨k, ⟨hk, HG.out, fun h => absurd h hlt⟩, rfl⟩, rfl⟩
end Go.Proofs.Ybulkdpeg
