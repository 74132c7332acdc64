/-
  Rows of the call's own that a loop fills from the left. No Go text is walked here.
-/
import Derived.Test.YbulkdpcqCount
namespace Go.Proofs.Ybulkdpcq
open Go.RowKit

/-- Block g is a row of n cells of type t whose first k cells hold V. -/
def PartRow (w : World) (g : Nat) (t : TypeId) (n k : Nat) (V : Nat → Value) : Prop := ∃ F, w.rowIs g t n F ∧ ∀ j, j < k → F j = V j

namespace PartRow
variable {w : World} {g : Nat} {t : TypeId} {n k : Nat} {V : Nat → Value}
theorem start {F : Nat → Value} (h : w.rowIs g t n F) (V : Nat → Value) : PartRow w g t n 0 V := ⟨F, h, fun _ hj => absurd hj (Nat.not_lt_zero _)⟩
theorem full (h : PartRow w g t n n V) : w.rowIs g t n V := by
  obtain ⟨F, h1, h2⟩ := h
  exact h1.congr h2
theorem spot (h : PartRow w g t n k V) {j : Nat} (hj : j < n) : ∃ v, w.cell? ⟨g, j, none⟩ = some v ∧ w.frozen? ⟨g, j, none⟩ = false := by
  obtain ⟨F, h1, _⟩ := h
  exact ⟨_, h1.cell hj, h1.frozen j⟩
theorem next (h : PartRow w g t n k V) : PartRow (w.setCell ⟨g, k, none⟩ (V k)) g t n (k + 1) V := by
  obtain ⟨F, h1, h2⟩ := h
  refine ⟨_, h1.set k (V k), fun j hj => ?_⟩
  by_cases e : j = k
  · rw [if_pos e, e]
  · rw [if_neg e]; exact h2 j (by omega)
theorem other (h : PartRow w g t n k V) {a : Addr} (ha : g ≠ a.block) (v : Value) : PartRow (w.setCell a v) g t n k V := by
  obtain ⟨F, h1, h2⟩ := h
  exact ⟨F, h1.setOther ha v, h2⟩
theorem say {V' : Nat → Value} (h : PartRow w g t n k V) (e : ∀ j, j < k → V j = V' j) : PartRow w g t n k V' := by
  obtain ⟨F, h1, h2⟩ := h
  exact ⟨F, h1, fun j hj => (h2 j hj).trans (e j hj)⟩
end PartRow

theorem row_made (w : World) (z : Value) (n : Nat) (t : TypeId) : (w.alloc (.cells (madeCells #[z] n) t)).rowIs w.heap.size t n (fun _ => z) := World.rowIs_made w z n t
end Go.Proofs.Ybulkdpcq
