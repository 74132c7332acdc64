/-
  'LawS5803BWhole' (function 3) and what she calls: the walks.
-/
import Derived.Test.YbulkdpdsRows
import Derived.Test.YbulkdpdsShelf
import Derived.WalkKit
import Derived.WalkSpells
import Derived.WalkLawsBesides
import Derived.Lib.RuneCount
import Derived.Lib.LastIndexLaws
import Derived.Lib.RabinKarpLaws
import Derived.Laws.RangeString
import Derived.Laws.RangeAny
import Derived.LoopTactic
import Derived.Deep.LoopGhost
import Derived.Deep.DeepCutAuto
namespace Go.Proofs.Ybulkdpds
open Go.RowKit Go.Lib

set_option maxHeartbeats 1000000 in
set_option maxRecDepth 100000 in
/-- 'zzs5803brunes' -/
theorem runes_any (s : ByteArray) (w : World) (hs : s.size ≤ 4096) :
    Calls Yba.prog 5 #[.string s] w fun e w' => e = .returned (.int .i64 (Lib.runeCount s)) ∧ ∃ pos, w' = w.iter s pos := by
  go_enter Yba.func5, Yba.ntmps5
  go_wp2
  go_loopw [3] (fun n w' => ∃ (pos b acc : Nat), w' = w.iter s pos ∧ n = .int .i64 acc ∧ acc + Lib.runeCountFrom s b pos = Lib.runeCount s ∧ s.size ≤ pos + b ∧ acc ≤ pos) (fun _ w' => s.size - w'.iterPos w.heap.size)
  case atStart => exact ⟨0, s.size, 0, rfl, rfl, by simp [Lib.runeCount], by omega, Nat.le_refl _⟩
  case round =>
    obtain ⟨pos, b, acc, rfl, rfl, hc, hb, ha⟩ := hrel
    have HC : Hid (acc + Lib.runeCountFrom s b pos = Lib.runeCount s) := hc
    clear hc
    by_cases hp : pos < s.size
    · have hnx : ∀ ty, (Instr.next (.pointer (some ⟨w.heap.size, 0, none⟩)) true ty).run Yba.prog (w.iter s pos) = _ := fun ty => run_next_any w s pos ty hp
      have hwd := Lib.decode_width_pos s pos hp
      go_wp2
      go_roundw
      case rel =>
        cases b with
        | zero => omega
        | succ b =>
          refine ⟨pos + (Utf8.decode s pos).2, b, acc + 1, rfl, by go_num, ?_, by omega, by omega⟩
          rw [← HC.out]
          simp [Lib.runeCountFrom, hp]
          omega
      case measure =>
        simp
        omega
    · have hnx : ∀ ty, (Instr.next (.pointer (some ⟨w.heap.size, 0, none⟩)) true ty).run Yba.prog (w.iter s pos) = _ := fun ty => run_next_end w s pos ty hp
      go_wp2
      go_ret
      have hc := HC.out
      rw [Lib.runeCountFrom_end s b pos hp, Nat.add_zero] at hc
      subst hc
      exact ⟨rfl, _, rfl⟩

set_option maxHeartbeats 1000000 in
set_option maxRecDepth 100000 in
/-- 'utf8.RuneCountInString' -/
theorem count_any (s : ByteArray) (w : World) (hs : s.size ≤ 4096) :
    Calls Yba.prog 10 #[.string s] w fun e w' => e = .returned (.int .i64 (Lib.runeCount s)) ∧ ∃ pos, w' = w.iter s pos := by
  go_enter Yba.func10, Yba.ntmps10
  go_wp2
  go_loopw [2] (fun n w' => ∃ (pos b acc : Nat), w' = w.iter s pos ∧ n = .int .i64 acc ∧ acc + Lib.runeCountFrom s b pos = Lib.runeCount s ∧ s.size ≤ pos + b ∧ acc ≤ pos) (fun _ w' => s.size - w'.iterPos w.heap.size)
  case atStart => exact ⟨0, s.size, 0, rfl, rfl, by simp [Lib.runeCount], by omega, Nat.le_refl _⟩
  case round =>
    obtain ⟨pos, b, acc, rfl, rfl, hc, hb, ha⟩ := hrel
    have HC : Hid (acc + Lib.runeCountFrom s b pos = Lib.runeCount s) := hc
    clear hc
    by_cases hp : pos < s.size
    · have hnx : ∀ ty, (Instr.next (.pointer (some ⟨w.heap.size, 0, none⟩)) true ty).run Yba.prog (w.iter s pos) = _ := fun ty => run_next_any w s pos ty hp
      have hwd := Lib.decode_width_pos s pos hp
      go_wp2
      go_roundw
      case rel =>
        cases b with
        | zero => omega
        | succ b =>
          refine ⟨pos + (Utf8.decode s pos).2, b, acc + 1, rfl, by go_num, ?_, by omega, by omega⟩
          rw [← HC.out]
          simp [Lib.runeCountFrom, hp]
          omega
      case measure =>
        simp
        omega
    · have hnx : ∀ ty, (Instr.next (.pointer (some ⟨w.heap.size, 0, none⟩)) true ty).run Yba.prog (w.iter s pos) = _ := fun ty => run_next_end w s pos ty hp
      go_wp2
      go_ret
      have hc := HC.out
      rw [Lib.runeCountFrom_end s b pos hp, Nat.add_zero] at hc
      subst hc
      exact ⟨rfl, _, rfl⟩

set_option maxHeartbeats 1000000 in
set_option maxRecDepth 100000 in
/-- 'zzs5803blast' -/
theorem last_any (s sep : ByteArray) (w : World) (h1 : 1 ≤ sep.size) (hs : s.size ≤ 4096) (hp : sep.size ≤ 4096) :
    Calls Yba.prog 4 #[.string s, .string sep] w fun e w' => e = .returned (.int .i64 (Lib.lastIndex s.data.toList sep.data.toList)) ∧ w' = w := by
  by_cases h2 : sep.size ≤ s.size
  · obtain ⟨last, hlast⟩ : ∃ last : Nat, last + sep.size = s.size := ⟨s.size - sep.size, by omega⟩
    have HL : Hid (Lib.lastIndex s.data.toList sep.data.toList = Lib.lastOcc s.data.toList sep.data.toList (last + 1)) := by
      show _ = _
      unfold Lib.lastIndex
      rw [if_pos (by simp; omega)]
      congr 1
      simp; omega
    go_enter Yba.func4, Yba.ntmps4
    go_wp2_with fail
    go_loopg [5] (last + 1) (fun q i wr => ∃ j : Nat, j ≤ last + 1 ∧ j = q ∧ i = .int .i64 ((j : Int) - 1) ∧ wr = w ∧ Hid (Lib.lastIndex s.data.toList sep.data.toList = Lib.lastOcc s.data.toList sep.data.toList j))
    case atStart => exact ⟨last + 1, Nat.le_refl _, rfl, by congr 1; omega, rfl, HL⟩
    case round =>
      obtain ⟨j, hj, rfl, rfl, rfl, hl⟩ := hrel
      clear HL
      by_cases hj1 : 1 ≤ j
      · obtain ⟨k, rfl⟩ : ∃ k, j = k + 1 := ⟨j - 1, by omega⟩
        have ek : (((k + 1 : Nat) : Int) - 1) = (k : Int) := by omega
        rw [ek]
        clear ek
        have hsl : ∀ w, (Instr.slice 9 (.string s) (some (.int .i64 (k : Int))) (some (.int .i64 ((k : Int) + sep.size))) none).run Yba.prog w = .ok (.string (s.extract k (k + sep.size))) w := fun w => by
          rw [run_slice_string w 9 s .i64 .i64 _ _ Yba.underlying9 (by omega) (by omega) (by omega), show ((k : Int)).toNat = k by omega, show ((k : Int) + sep.size).toNat = k + sep.size by omega]
        cases hcmp : ((s.extract k (k + sep.size)).toList == sep.toList) with
        | true =>
          have HO : Hid (Lib.lastIndex s.data.toList sep.data.toList = (k : Int)) := hl.out.trans (Lib.lastOcc_hit _ _ k (occ_yes s sep k (by omega) hcmp))
          go_wp2_with fail
          go_ret
          rw [HO.out]
          exact ⟨rfl, rfl⟩
        | false =>
          have HO : Hid (Lib.lastIndex s.data.toList sep.data.toList = Lib.lastOcc s.data.toList sep.data.toList k) := hl.out.trans (Lib.lastOcc_miss _ _ k (occ_no s sep k (by omega) hcmp))
          go_wp2_with fail
          go_roundg k
          case measure => omega
          case rel => exact ⟨k, by omega, rfl, rfl, rfl, HO⟩
      · obtain rfl : j = 0 := by omega
        go_wp2_with fail
        go_ret
        rw [hl.out]
        exact ⟨rfl, rfl⟩
  · have HL : Hid (Lib.lastIndex s.data.toList sep.data.toList = -1) := by
      show _ = _
      unfold Lib.lastIndex
      rw [if_neg (by simp; omega)]
    go_enter Yba.func4, Yba.ntmps4
    go_wp2_with fail
    go_loopg [5] 1 (fun q i wr => q = 1 ∧ i = .int .i64 ((s.size : Int) - sep.size) ∧ wr = w)
    case atStart => exact ⟨rfl, rfl, rfl⟩
    case round =>
      obtain ⟨rfl, rfl, rfl⟩ := hrel
      go_wp2_with fail
      go_ret
      rw [HL.out]
      exact ⟨rfl, rfl⟩
end Go.Proofs.Ybulkdpds
