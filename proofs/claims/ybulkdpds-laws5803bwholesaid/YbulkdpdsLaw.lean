/-
  'LawS5803BWhole' (function 3): the walk of the law itself.
-/
import Derived.Test.YbulkdpdsWalk
namespace Go.Proofs.Ybulkdpds
open Go.RowKit Go.Lib

theorem assert_int (n : Int) (w : World) : (Instr.typeAssert (.iface 31 (.int .i32 n)) 34 31 true).run Yba.prog w = .ok (.tuple #[.int .i32 n, .bool true]) w := by kernel_rfl

theorem grown_iter {W w' : World} (h : Grown W w') (s : ByteArray) (p : Nat) : Grown W (w'.alloc (.stringIter s p)) := by
  refine ⟨World.keptBut_trans h.1 (World.keptBut_alloc _ _ _), fun a => ?_, by have := h.2.2; simp; omega⟩
  rw [← h.2.1 a]
  by_cases hb : a.block < w'.heap.size
  · exact World.frozen?_of_block (Below.heap_alloc w' _ _ hb)
  · have h0 : w'.heap[a.block]? = none := Array.getElem?_eq_none (by omega)
    have h1 : w'.frozen? a = false := by simp [World.frozen?, h0]
    rw [h1]
    by_cases he : a.block = w'.heap.size
    · have h2 : (w'.alloc (.stringIter s p)).heap[a.block]? = some (.stringIter s p) := by rw [he]; exact World.iter_heap w' s p
      simp [World.frozen?, h2]
    · have h2 : (w'.alloc (.stringIter s p)).heap[a.block]? = none := Array.getElem?_eq_none (by simp; omega)
      simp [World.frozen?, h2]

set_option maxHeartbeats 1000000 in
set_option maxRecDepth 100000 in
theorem law_empty (s sub : ByteArray) (w : World) (hs : s.size ≤ 4096) (h0 : sub.toList.isEmpty = true) (hp : sub.size ≤ 4096) :
    Calls Yba.prog 3 #[.string s, .string sub] w fun e w' => e = .returned (.bool true) ∧ Grown w w' := by
  have hta := assert_int
  go_enter Yba.func3, Yba.ntmps3
  go_wp2_with go_in
  go_ret
  exact ⟨rfl, by repeat (first | exact Grown.refl _ | apply Grown.drew | apply Grown.alloc | apply grown_iter)⟩

set_option maxHeartbeats 1000000 in
set_option maxRecDepth 100000 in
theorem law_none (s sub : ByteArray) (w : World) (hs : s.size ≤ 4096) (h0 : sub.toList.isEmpty = false) (h1 : 1 ≤ sub.size) (hp : sub.size ≤ 4096) (hl : Hid (Lib.lastIndex s.data.toList sub.data.toList = -1)) :
    Calls Yba.prog 3 #[.string s, .string sub] w fun e w' => e = .returned (.bool true) ∧ Grown w w' := by
  have hta := assert_int
  go_enter Yba.func3, Yba.ntmps3
  go_wp2_with fail
  refine (last_any s sub _ h1 hs hp).mono ?_
  rintro e w1 ⟨rfl, rfl⟩
  rw [hl.out]
  go_wp2_with (first | (go_at_call 9; refine (Yba.strings_LastIndex s sub (by omega) _).mono ?_; rintro e w2 ⟨rfl, rfl⟩; rw [hl.out]) | go_in)
  go_ret
  exact ⟨rfl, by repeat (first | exact Grown.refl _ | apply Grown.drew | apply Grown.alloc | apply grown_iter)⟩

set_option maxHeartbeats 1000000 in
set_option maxRecDepth 100000 in
theorem law_found (s sub : ByteArray) (w : World) (hs : s.size ≤ 4096) (h0 : sub.toList.isEmpty = false) (h1 : 1 ≤ sub.size) (hp : sub.size ≤ 4096) (k : Nat) (hk : k ≤ s.size) (hl : Hid (Lib.lastIndex s.data.toList sub.data.toList = (k : Int))) :
    Calls Yba.prog 3 #[.string s, .string sub] w fun e w' => e = .returned (.bool true) ∧ Grown w w' := by
  have hta := assert_int
  have hsz : (s.extract 0 k).size ≤ 4096 := by simp; omega
  have hrc := Lib.runeCount_le (s.extract 0 k)
  go_enter Yba.func3, Yba.ntmps3
  go_wp2_with fail
  refine (last_any s sub _ h1 hs hp).mono ?_
  rintro e w1 ⟨rfl, rfl⟩
  rw [hl.out]
  go_wp2_with fail
  refine (runes_any (s.extract 0 k) _ hsz).mono ?_
  rintro e w2 ⟨rfl, pos, hw2⟩
  obtain rfl : w2 = w1.alloc (.stringIter (s.extract 0 k) pos) := hw2
  go_wp2_with (first | (go_at_call 9; refine (Yba.strings_LastIndex s sub (by omega) _).mono ?_; rintro e w2 ⟨rfl, rfl⟩; rw [hl.out]) | (go_at_call 10; refine (count_any (s.extract 0 k) _ hsz).mono ?_; rintro e w3 ⟨rfl, pos2, hw3⟩; obtain rfl : w3 = _ := hw3; unfold World.iter) | go_in)
  go_ret
  exact ⟨rfl, by repeat (first | exact Grown.refl _ | apply Grown.drew | apply Grown.alloc | apply grown_iter)⟩
end Go.Proofs.Ybulkdpds
