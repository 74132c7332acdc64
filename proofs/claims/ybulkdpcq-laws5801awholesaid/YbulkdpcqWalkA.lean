import Derived.Test.YbulkdpcqRowsLaw
import Derived.Deep.DeepCutAuto
import Derived.Deep.QuietTactic
import Derived.BigQuiet
import Derived.RegionTactic
import Derived.BigRegion
import Derived.Lib.Builder
import Derived.Deep.LoopGhost
namespace Go.Proofs.Ybulkdpcq
open Go.RowKit

theorem Yba.info33 : (Yba.prog.info? 33).isSome = true := by kernel_rfl

def pairF (x y : Nat → Int) (j : Nat) : Int := if j % 2 = 0 then x (j / 2) else y (j / 2)
theorem pairF_even (x y : Nat → Int) (k : Nat) : pairF x y (k * 2) = x k := by simp [pairF]
theorem pairF_odd (x y : Nat → Int) (k : Nat) : pairF x y (k * 2 + 1) = y k := by
  unfold pairF
  rw [if_neg (by omega), show (k * 2 + 1) / 2 = k by omega]

/-- What the checks at the end lean on. -/
structure TailA (w wx : World) (a1 : Option Addr) (len1 : Nat) (z1 : Nat → Int) (len2 : Nat) (x2 y2 : Nat → Int) (g f : Nat) : Prop where
  below : Below w.heap.size w wx
  mark : wx.cell? ⟨f, 2, none⟩ = some (.slice (a1.map fun _ => ⟨w.heap.size, 0, none⟩) len1 len1)
  row1 : 0 < len1 → wx.rowIs w.heap.size 22 len1 (fun i => .int .u64 (z1 i))
  row2 : 0 < len2 → wx.rowIs g 29 (len2 * 2) (fun j => .int .i64 (pairF x2 y2 j))

namespace TailA
variable {w wx : World} {a1 : Option Addr} {len1 : Nat} {z1 : Nat → Int} {len2 : Nat} {x2 y2 : Nat → Int} {g f : Nat}
theorem drewN (h : TailA w wx a1 len1 z1 len2 x2 y2 g f) (n : Nat) : TailA w (wx.drewN n) a1 len1 z1 len2 x2 y2 g f := ⟨below_drewN h.below n, h.mark, h.row1, h.row2⟩
theorem markCell (h : TailA w wx a1 len1 z1 len2 x2 y2 g f) {k : Nat} (hk : k < len1) : wx.cell? ⟨w.heap.size, k, none⟩ = some (.int .u64 (z1 k)) := (h.row1 (by omega)).cell hk
theorem queueCell0 (h : TailA w wx a1 len1 z1 len2 x2 y2 g f) {k : Nat} (hk : k < len2) : wx.cell? ⟨g, k * 2, none⟩ = some (.int .i64 (x2 k)) := by
  rw [(h.row2 (by omega)).cell (by omega), pairF_even]
theorem queueCell1 (h : TailA w wx a1 len1 z1 len2 x2 y2 g f) {k : Nat} (hk : k < len2) : wx.cell? ⟨g, k * 2 + 1, none⟩ = some (.int .i64 (y2 k)) := by
  rw [(h.row2 (by omega)).cell (by omega), pairF_odd]
end TailA

theorem tailA_start {w wc : World} {a1 : Option Addr} {len1 : Nat} {z1 : Nat → Int} {len2 : Nat} {x2 y2 : Nat → Int} {g : Nat} {o : Obj} {c0 c1 c3 c4 : Value} (hb : Below w.heap.size w wc)
    (r1 : 0 < len1 → wc.rowIs w.heap.size 22 len1 (fun i => .int .u64 (z1 i))) (r2 : 0 < len2 → wc.rowIs g 29 (len2 * 2) (fun j => .int .i64 (pairF x2 y2 j))) :
    TailA w ((wc.alloc o).alloc (.cells #[c0, c1, .slice (a1.map fun _ => ⟨w.heap.size, 0, none⟩) len1 len1, c3, c4] 35)) a1 len1 z1 len2 x2 y2 g (wc.heap.size + 1) := by
  have hs := hb.size
  refine ⟨(hb.alloc hs _).alloc (by simp; omega) _, ?_, fun h => ((r1 h).alloc _).alloc _, fun h => ((r2 h).alloc _).alloc _⟩
  have e : (wc.alloc o).heap.size = wc.heap.size + 1 := by simp
  rw [← e]
  simp

theorem none_of {a : Option Addr} (h : a.isSome = false) : a = none := by cases a <;> simp_all

theorem stepA {w wc wr : World} {len1 len2 k : Nat} {z1 x2 y2 : Nat → Int} {F : Nat → Value} (hge : w.heap.size ≤ wc.heap.size) (hlt : 0 < len1 → w.heap.size < wc.heap.size) (hb : Below w.heap.size w wr)
    (hr : 0 < len1 → wr.rowIs w.heap.size 22 len1 fun i => Value.int IntKind.u64 (z1 i)) (hF : wr.rowIs wc.heap.size 29 (len2 * 2) F) (hFk : ∀ j, j < k * 2 → F j = .int .i64 (pairF x2 y2 j)) :
    Below w.heap.size w ((wr.setCell ⟨wc.heap.size, k * 2, none⟩ (.int .i64 (x2 k))).setCell ⟨wc.heap.size, k * 2 + 1, none⟩ (.int .i64 (y2 k))).drew ∧
    (0 < len1 → ((wr.setCell ⟨wc.heap.size, k * 2, none⟩ (.int .i64 (x2 k))).setCell ⟨wc.heap.size, k * 2 + 1, none⟩ (.int .i64 (y2 k))).drew.rowIs w.heap.size 22 len1 fun i => .int .u64 (z1 i)) ∧
    ∃ F, ((wr.setCell ⟨wc.heap.size, k * 2, none⟩ (.int .i64 (x2 k))).setCell ⟨wc.heap.size, k * 2 + 1, none⟩ (.int .i64 (y2 k))).drew.rowIs wc.heap.size 29 (len2 * 2) F ∧ ∀ j, j < (k + 1) * 2 → F j = .int .i64 (pairF x2 y2 j) := by
  refine ⟨((hb.setCell (by exact hge) _).setCell (by exact hge) _).drew, fun h => ?_, _, ((hF.set _ _).set _ _).drew, fun j hj => ?_⟩
  · have := hlt h
    exact (((hr h).setOther (by simp; omega) _).setOther (by simp; omega) _).drew
  · by_cases h1 : j = k * 2 + 1
    · subst h1
      rw [if_pos rfl, pairF_odd]
    · rw [if_neg h1]
      by_cases h0 : j = k * 2
      · subst h0
        rw [if_pos rfl, pairF_even]
      · rw [if_neg h0]
        exact hFk j (by omega)

theorem made_pairs (w : World) (n : Nat) : (w.alloc (Obj.cells (madeCells #[Value.int IntKind.i64 0, Value.int IntKind.i64 0] (n * 2)) 29)).rowIs w.heap.size 29 (n * 2) (fun _ => .int .i64 0) := by
  refine ⟨_, Go.Deep.blk_alloc_new _ _, size_madeCells _ _, fun i hi => ?_⟩
  have h2 : i % 2 = 0 ∨ i % 2 = 1 := by omega
  rcases h2 with h | h <;> simp [madeCells, hi, h]

set_option maxHeartbeats 400000 in
theorem start_any (W : World) (b : Nat) (c0 c2 : Value) (m : Int) (aq : Option Addr) (lq : Nat) (l : Int) (hb : W.heap.size = b) :
    Calls Yba.prog 6 #[.pointer (some ⟨b, 0, none⟩)] (W.alloc (.cells #[c0, .int .u64 m, c2, .slice aq lq lq, .int .i64 l] 35)) fun e w' => e = .returned (.tuple #[]) ∧
      ∃ aq', aq'.isNone = aq.isNone ∧ w' = W.alloc (.cells #[c0, .int .u64 (IntKind.u64.wrap (m + 1)), c2, .slice aq' 0 lq, .int .i64 0] 35) := by
  subst hb
  go_enter Yba.func6, Yba.ntmps6
  go_wp2
  all_goals
    go_end0
    refine ⟨rfl, _, ?_, rfl⟩
    simp

set_option maxHeartbeats 400000 in
set_option maxRecDepth 100000 in
theorem walkA (a0 : Int) (a1 : Option Addr) (len1 cap1 : Nat) (z1 : Nat → Int) (a2 : Option Addr) (len2 cap2 : Nat) (x2 y2 : Nat → Int) (a3 : Int) (w : World)
    (hl : len1 + len2 ≤ 1048576) (hn1 : a1 = none → len1 = 0) (hn2 : a2 = none → len2 = 0)
    (hm1 : 0 < len1 → ∃ b off, a1 = some ⟨b, off, none⟩ ∧ b < w.heap.size ∧ ∀ i, i < len1 → w.cell? ⟨b, off + i, none⟩ = some (.int .u64 (z1 i)))
    (hm2 : 0 < len2 → ∃ b off, a2 = some ⟨b, off, none⟩ ∧ b < w.heap.size ∧ ∀ i, i < len2 → w.cell? ⟨b, off + i * 2, none⟩ = some (.int .i64 (x2 i)) ∧ w.cell? ⟨b, off + i * 2 + 1, none⟩ = some (.int .i64 (y2 i))) :
    Calls Yba.prog 3 #[.int .u64 a0, .slice a1 len1 cap1, .slice a2 len2 cap2, .int .i64 a3] w fun e w' => e = .returned (.bool true) ∧ Below w.heap.size w w' := by
  have hn23 := fun w a n c => run_neq_slice_nil_any (P := Yba.prog) w 23 22 a n c 0 0 Yba.underlying23
  have hn24 := fun w a n c => run_neq_slice_nil_any (P := Yba.prog) w 24 27 a n c 0 0 Yba.underlying24
  have he23 := fun w a n c => Lib.run_eql_slice_nil (P := Yba.prog) w 23 22 a n c 0 0 Yba.underlying23
  have he24 := fun w a n c => Lib.run_eql_slice_nil (P := Yba.prog) w 24 27 a n c 0 0 Yba.underlying24
  have he25 := fun w a n c => Lib.run_eql_slice_nil (P := Yba.prog) w 25 29 a n c 0 0 Yba.underlying25
  have hmk1 := fun w => run_make_row' (P := Yba.prog) 23 22 (.int .u64 0) 8 Yba.underlying23 Yba.info22 rfl .i64 .i64 len1 (by omega) (by omega) w
  obtain ⟨W2, hcp, hbW2, hrW2, _⟩ := copy_made Yba.underlying23 Yba.info22 w w a1 len1 cap1 (fun i => .int .u64 (z1 i)) (Below.refl _ _) hm1 (fun _ => rfl)
  obtain ⟨i29, hi29, hz29, hs29, hb29⟩ := info_parts Yba.info29
  obtain ⟨i22, hi22, _⟩ := info_parts Yba.info22
  obtain ⟨i33, hi33⟩ := Option.isSome_iff_exists.1 Yba.info33
  have hp30 := fun (w : World) a => Lib.run_neq_ptr_same (P := Yba.prog) w a Yba.underlying30 hi33
  have hp36 := fun (w : World) a => Lib.run_neq_ptr_same (P := Yba.prog) w a Yba.underlying36 hi22
  go_enter Yba.func3, Yba.ntmps3
  go_upto_if 24 with fail
  go_cut [9] (fun mkv wx => mkv = .slice (a1.map fun _ => ⟨w.heap.size, 0, none⟩) len1 len1 ∧ Below w.heap.size w wx ∧ (0 < len1 → wx.rowIs w.heap.size 22 len1 (fun i => .int .u64 (z1 i))))
  case first =>
    have hH : Hid (Below w.heap.size w W2 ∧ W2.rowIs w.heap.size 22 len1 (fun i => .int .u64 (z1 i))) := ⟨hbW2, hrW2⟩
    clear hbW2 hrW2
    go_wp2_with fail
    · go_meet
      have hs : a1.isSome = true := by assumption
      obtain ⟨x, rfl⟩ := Option.isSome_iff_exists.1 hs
      exact ⟨rfl, hH.out.1, fun _ => hH.out.2⟩
    · go_meet
      have hs : a1.isSome = false := by assumption
      obtain rfl := none_of hs
      obtain rfl := hn1 rfl
      exact ⟨rfl, Below.refl _ _, fun h => absurd h (by omega)⟩
  case rest =>
    obtain ⟨rfl, hbel, hrow⟩ := hcut
    have hmk2 := fun w => run_make (P := Yba.prog) w 25 29 i29 _ Yba.underlying25 hi29 hz29 .i64 .i64 len2 len2 (by omega) (by omega) (by rw [hb29]; omega) (by omega)
    rw [hs29] at hmk2
    simp only [Int.toNat_natCast] at hmk2
    clear hmk1 hcp hbW2 hrW2
    go_upto_if 32 with fail
    go_cut [10] (fun qv wx => ∃ g, qv = .slice (a2.map fun _ => ⟨g, 0, none⟩) len2 len2 ∧ Below w.heap.size w wx ∧ (0 < len1 → wx.rowIs w.heap.size 22 len1 (fun i => .int .u64 (z1 i))) ∧ (0 < len2 → wx.rowIs g 29 (len2 * 2) (fun j => .int .i64 (pairF x2 y2 j))))
    case first =>
      go_wp2_with fail
      · have hs : a2.isSome = true := by assumption
        have hb1 : Below w.heap.size w (wc.alloc (Obj.cells (madeCells #[Value.int IntKind.i64 0, Value.int IntKind.i64 0] (len2 * 2)) 29)) := hbel.alloc hbel.size _
        have hr1 : 0 < len1 → (wc.alloc (Obj.cells (madeCells #[Value.int IntKind.i64 0, Value.int IntKind.i64 0] (len2 * 2)) 29)).rowIs w.heap.size 22 len1 (fun i => .int .u64 (z1 i)) := fun h => (hrow h).alloc _
        have hr2 : (wc.alloc (Obj.cells (madeCells #[Value.int IntKind.i64 0, Value.int IntKind.i64 0] (len2 * 2)) 29)).rowIs wc.heap.size 29 (len2 * 2) (fun _ => .int .i64 0) := made_pairs wc len2
        have hlt : 0 < len1 → w.heap.size < wc.heap.size := fun h => (hrow h).lt
        have hge := hbel.size
        clear hmk2 hbel hrow
        go_loopg [38] len2 (fun n i wr => ∃ k : Nat, k ≤ len2 ∧ n = len2 - k ∧ i = .int .i64 k ∧ Below w.heap.size w wr ∧ (0 < len1 → wr.rowIs w.heap.size 22 len1 (fun i => .int .u64 (z1 i))) ∧ ∃ F, wr.rowIs wc.heap.size 29 (len2 * 2) F ∧ ∀ j, j < k * 2 → F j = .int .i64 (pairF x2 y2 j))
        case atStart => exact ⟨0, Nat.zero_le _, by omega, rfl, hb1, hr1, _, hr2, fun j hj => by omega⟩
        case round =>
          obtain ⟨k, hk, rfl, rfl, hb, hr, F, hF, hFk⟩ := hrel
          clear hb1 hr1 hr2
          by_cases hlt2 : k < len2
          · obtain ⟨b, off, rfl, hbw, hc⟩ := hm2 (by omega)
            have hx := (hb.cell (p := ⟨b, off + k * 2, none⟩) hbw).trans (hc k hlt2).1
            have hy := (hb.cell (p := ⟨b, off + k * 2 + 1, none⟩) hbw).trans (hc k hlt2).2
            have hc0 := hF.cell (i := k * 2) (by omega)
            have hc1 := hF.cell (i := k * 2 + 1) (by omega)
            have hf0 := hF.frozen (k * 2)
            have hf1 := hF.frozen (k * 2 + 1)
            go_wp2_with fail
            go_big_region
            go_wp2_with fail
            go_roundg (len2 - (k + 1))
            case measure => omega
            case rel =>
              have R := stepA hge hlt hb hr hF hFk
              exact ⟨k + 1, by omega, rfl, by go_num, R.1, R.2.1, R.2.2⟩
          · go_wp2_with fail
            go_meet
            have hkl : k = len2 := by omega
            subst hkl
            obtain ⟨x, rfl⟩ := Option.isSome_iff_exists.1 hs
            exact ⟨_, rfl, hb, hr, fun _ => hF.congr hFk⟩
      · have hs : a2.isSome = false := by assumption
        obtain rfl := none_of hs
        obtain rfl := hn2 rfl
        go_meet
        exact ⟨0, rfl, hbel, hrow, fun h => absurd h (by omega)⟩
    case rest =>
      obtain ⟨g, rfl, hbel, hrow, hrow2⟩ := hcut
      clear hmk2 hn23 hn24
      go_wp2_with fail
      refine (start_any _ _ _ _ a0 _ _ a3 (by simp)).mono ?_
      rintro e w1 ⟨rfl, aq, haq, rfl⟩
      obtain ⟨fb, hfb⟩ : ∃ fb, fb = wc.heap.size + 1 := ⟨_, rfl⟩
      have HF : Hid (fb = wc.heap.size + 1) := hfb
      clear hfb
      go_upto_region 26 with fail
      go_cut [119] (fun t wx => t = .bool false ∧ TailA w wx a1 len1 z1 len2 x2 y2 g fb)
      case first =>
        by_cases hpos : 0 < len1
        · obtain ⟨b, off, rfl, hbw, hc⟩ := hm1 hpos
          have hdp : (0 : Int) < (len1 : Int) := by omega
          go_quiet (fail)
          go_wp2_with fail
          go_meet
          exact ⟨rfl, by rw [HF.out]; exact (tailA_start hbel hrow hrow2).drewN _⟩
        · have hdp : decide ((0 : Int) < (len1 : Int)) = false := decide_eq_false (by omega)
          go_quiet (fail)
          go_wp2_with fail
          go_meet
          exact ⟨rfl, by rw [HF.out]; exact (tailA_start hbel hrow hrow2).drewN _⟩
      case rest =>
        obtain ⟨rfl, T0⟩ := hcut
        clear hp30 hp36 he23 he24 he25 hbel hrow hrow2
        go_wp2_with fail
        go_loopg [122] len1 (fun n i wr => ∃ k : Nat, k ≤ len1 ∧ n = len1 - k ∧ i = .int .i64 k ∧ TailA w wr a1 len1 z1 len2 x2 y2 g fb)
        case atStart => exact ⟨0, Nat.zero_le _, by omega, rfl, T0⟩
        case round =>
          obtain ⟨k, hk, rfl, rfl, T1⟩ := hrel
          clear T0
          by_cases hlt1 : k < len1
          · obtain ⟨b, off, rfl, hbw, hc⟩ := hm1 (by omega)
            have h1 := T1.mark
            rw [HF.out] at h1
            have h2 := T1.markCell hlt1
            have h3 := (T1.below.cell (p := ⟨b, off + k, none⟩) hbw).trans (hc k hlt1)
            go_wp2_with fail
            go_quiet (fail)
            go_wp2_with fail
            go_roundg (len1 - (k + 1))
            case measure => omega
            case rel => exact ⟨k + 1, by omega, rfl, by go_num, T1.drewN _⟩
          · go_wp2_with fail
            go_loopg [138] len2 (fun n i wr => ∃ k : Nat, k ≤ len2 ∧ n = len2 - k ∧ i = .int .i64 k ∧ TailA w wr a1 len1 z1 len2 x2 y2 g fb)
            case atStart => exact ⟨0, Nat.zero_le _, by omega, rfl, T1⟩
            case round =>
              obtain ⟨k2, hk2, rfl, rfl, T2⟩ := hrel
              clear T1
              by_cases hlt2 : k2 < len2
              · obtain ⟨b, off, rfl, hbw, hc⟩ := hm2 (by omega)
                have h1 := T2.queueCell0 hlt2
                have h2 := T2.queueCell1 hlt2
                have h3 := (T2.below.cell (p := ⟨b, off + k2 * 2, none⟩) hbw).trans (hc k2 hlt2).1
                have h4 := (T2.below.cell (p := ⟨b, off + k2 * 2 + 1, none⟩) hbw).trans (hc k2 hlt2).2
                go_wp2_with fail
                go_quiet (fail)
                go_wp2_with fail
                go_roundg (len2 - (k2 + 1))
                case measure => omega
                case rel => exact ⟨k2 + 1, by omega, rfl, by go_num, T2.drewN _⟩
              · go_wp2_with fail
                go_ret
                exact ⟨rfl, T2.below⟩
end Go.Proofs.Ybulkdpcq
