/-
  'LawS5804BBuilt' (function 4): the walk.
-/
import Derived.Test.YbulkdpegModel
import Derived.Test.YbulkdpegBytes
namespace Go.Proofs.Ybulkdpeg
open Go.RowKit

set_option maxHeartbeats 1000000 in
set_option maxRecDepth 100000 in
theorem built_any (first : Int) (a : Option Addr) (len cap : Nat) (z : Nat → Int) (w : World) (hl : len ≤ 1048576) (hf0 : 0 ≤ first) (hf1 : first ≤ 255)
    (ha : 0 < len → ∃ b off, a = some ⟨b, off, none⟩ ∧ b < w.heap.size ∧ ∀ i, i < len → w.cell? ⟨b, off + i, none⟩ = some (.int .u8 (z i)) ∧ 0 ≤ z i ∧ z i ≤ 255) :
    Calls Yba.prog 4 #[.int .u8 first, .slice a len cap] w fun e w' => e = .returned (.bool true) ∧ Below w.heap.size w w' := by
  obtain ⟨i0, hi, hz0, hz1, hz2⟩ := info_parts Yba.info5
  have m0 : 0 ≤ first % 8 := by omega
  have m1 : first % 8 < 8 := by omega
  go_enter Yba.func4, Yba.ntmps4
  go_wp2_with (first | (at_make; refine wpList_make_own _ rfl _ _ 23 rfl w.heap.size 5 i0 (.int .u8 0) 1 Yba.underlying23 hi hz0 hz1 .i64 .i64 ((len : Int) + 1) (len + 1) rfl rfl (by omega) (by rw [hz2]; omega) (by unfold maxLen; omega) (Nat.le_refl _) ?_; intro w1 hown hgrow) | (at_builtin; refine wpList_append_fits _ rfl _ _ 23 rfl w.heap.size 5 i0 1 Yba.underlying23 hi hz1 w.heap.size 0 (len + 1) [] rfl (hown.alloc _) ⟨w1.heap.size, 0, none⟩ 1 1 [_] rfl rfl (cell_one_new _ _ _) (by intro u hu; simp at hu; subst hu; rfl) (by omega) ?_; intro w2 hown2 hgrow2))
  have hB1 : Below w.heap.size w w1 := (Below.refl _ _).grown hgrow (Nat.le_refl _) (fun k hk => by cases hk)
  have hB2 : Below w.heap.size w w2 := (hB1.alloc hB1.size _).grown hgrow2 (by have := hB1.size; simp; omega) (fun k hk => by simp at hk; omega)
  go_loopg [5, 6] len (fun q v i wr => ∃ (k : Nat) (ns : List Int), k ≤ len ∧ q = len - k ∧ i = .int .i64 k ∧ v = .slice (some ⟨w.heap.size, 0, none⟩) (k + 1) (len + 1) ∧ wr.ownsRow w.heap.size 5 1 (.slice (some ⟨w.heap.size, 0, none⟩) (k + 1) (len + 1)) (k + 1) (ns.map (Value.int .u8)) ∧ Below w.heap.size w wr)
  case atStart => exact ⟨0, [_], Nat.zero_le _, by omega, rfl, rfl, hown2, hB2⟩
  case round =>
    obtain ⟨k, ns, hk, rfl, rfl, rfl, hO, hB⟩ := hrel
    clear hown hown2 hgrow hgrow2 hB1 hB2
    by_cases hlt : k < len
    · obtain ⟨b, off, rfl, hbw, hc⟩ := ha (by omega)
      have c1 := (hB.cell (p := ⟨b, off + k, none⟩) hbw).trans (hc k hlt).1
      have z0 := (hc k hlt).2.1
      have z1 := (hc k hlt).2.2
      have q0 : 0 ≤ z k % 12 := by omega
      have q1 : z k % 12 < 12 := by omega
      clear hc
      go_wp2_with (at_builtin; refine wpList_append_fits _ rfl _ _ 23 rfl w.heap.size 5 i0 1 Yba.underlying23 hi hz1 w.heap.size (k + 1) (len + 1) (ns.map (Value.int .u8)) rfl (hO.alloc _) ⟨wr.heap.size, 0, none⟩ 1 1 [_] rfl rfl (cell_one_new _ _ _) (by intro u hu; simp at hu; subst hu; rfl) (by omega) ?_; intro w2 hown2 hgrow2)
      go_roundg (len - (k + 1))
      case measure => omega
      case rel => exact ⟨k + 1, ns ++ [_], by omega, rfl, by go_num, rfl, by rw [List.map_append]; exact hown2, (hB.alloc hB.size _).grown hgrow2 (by have := hB.size; simp; omega) (fun k hk => by simp at hk; omega)⟩
    · obtain rfl : k = len := by omega
      obtain ⟨s, _, hsz, hcv⟩ := string_of hO
      have hsz2 : s.size ≤ 2097152 := by omega
      clear hO hsz
      go_wp2_with fail
      refine (ident_any s _ hsz2).mono ?_
      rintro e w1 ⟨⟨b1, rfl, h1⟩, rfl⟩
      have H1 : Hid (b1 = true ↔ Ident s) := h1
      clear h1
      go_wp2_with fail
      refine (model_any s _ hsz2).mono ?_
      rintro e w2 ⟨⟨b2, rfl, h2⟩, rfl⟩
      have hb : (b1 == b2) = true := by
        have e1 : b1 = b2 := Bool.eq_iff_iff.2 (H1.out.trans h2.symm)
        rw [e1]; simp
      clear h2
      go_wp2_with fail
      go_ret
      exact ⟨rfl, hB⟩
end Go.Proofs.Ybulkdpeg
