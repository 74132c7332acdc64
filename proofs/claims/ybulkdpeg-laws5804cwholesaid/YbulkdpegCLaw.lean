/-
  'LawS5804CWhole' (function 5): the walk.
-/
import Derived.Test.YbulkdpegTrim
namespace Go.Proofs.Ybulkdpeg
open Go.RowKit

set_option maxHeartbeats 1000000 in
set_option maxRecDepth 100000 in
theorem cwhole_any (s : ByteArray) (w : World) (hs : s.size ≤ 1048576) : Calls Yba.prog 5 #[.string s] w fun e w' => e = .returned (.bool true) ∧ w' = w := by
  go_enter Yba.func5, Yba.ntmps5
  go_wp2_with fail
  refine (trim_any s _ (by omega)).mono ?_
  rintro e w1 ⟨⟨k, HK, rfl⟩, rfl⟩
  have hk := HK.1
  have r1 : s.size - (s.size - k) = k := by omega
  have r2 : (s.size : Int) - ((s.size - k : Nat) : Int) = (k : Int) := by omega
  have r3 : ¬ s.size < s.size - k := by omega
  go_wp2_with fail
  clear r1 r2 r3
  go_loopg [5] k (fun q i wr => ∃ j : Nat, j ≤ k ∧ q = k - j ∧ i = .int .i64 j ∧ wr = w1)
  case atStart => exact ⟨0, Nat.zero_le _, rfl, rfl, rfl⟩
  case round =>
    obtain ⟨j, hj, rfl, rfl, rfl⟩ := hrel
    by_cases hlt : j < k
    · have hjs : j < s.size := by omega
      have h256 := UInt8.toNat_lt (s[j]'hjs)
      have hb : blankB (s[j]'hjs).toNat = true := by
        have := HK.2.1 j hlt
        rwa [byteAt_eq s j hjs] at this
      go_wp2_with (go_at_call 10; refine (blank_any _ _ h256).mono ?_; rintro e w1 ⟨rfl, rfl⟩)
      go_roundg (k - (j + 1))
      case measure => omega
      case rel => exact ⟨j + 1, by omega, rfl, by go_num, rfl⟩
    · by_cases hks : k < s.size
      · have h256 := UInt8.toNat_lt (s[k]'hks)
        have hb : blankB (s[k]'hks).toNat = false := by
          have := HK.2.2 hks
          rwa [byteAt_eq s k hks] at this
        go_wp2_with (go_at_call 10; refine (blank_any _ _ h256).mono ?_; rintro e w1 ⟨rfl, rfl⟩)
        go_ret
        exact ⟨rfl, rfl⟩
      · go_wp2_with fail
        go_ret
        exact ⟨rfl, rfl⟩
end Go.Proofs.Ybulkdpeg
