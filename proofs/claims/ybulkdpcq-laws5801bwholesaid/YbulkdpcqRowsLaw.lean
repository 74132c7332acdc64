/-
  Laws on rows that the call itself makes: make and copy, said by 'World.rowIs'. No Go text of the program is walked here.
-/
import Derived.Test.YbulkdpcqRows
import Derived.WalkKit
import Derived.WalkSpells
import Derived.WalkLawsBesides
import Derived.Deep.OwnRows
import Derived.Laws.CopyOwn
namespace Go.Proofs.Ybulkdpcq
open Go.RowKit

theorem Yba.info22 : (Yba.prog.info? 22).map (fun i => (i.zero, i.size, i.bytes)) = some (some (.int .u64 0), 1, 8) := by kernel_rfl
theorem Yba.info3 : (Yba.prog.info? 3).map (fun i => (i.zero, i.size, i.bytes)) = some (some (.int .i64 0), 1, 8) := by kernel_rfl
theorem Yba.info4 : (Yba.prog.info? 4).map (fun i => (i.zero, i.size, i.bytes)) = some (some (.bool false), 1, 1) := by kernel_rfl
theorem Yba.info29 : (Yba.prog.info? 29).map (fun i => (i.zero, i.size, i.bytes)) = some (some (.agg #[.int .i64 0, .int .i64 0]), 2, 16) := by kernel_rfl

theorem addr_add (b off i : Nat) : (⟨b, off, none⟩ : Addr).add i = ⟨b, off + i, none⟩ := by
  unfold Addr.add
  split <;> simp_all

/-- A row that is known whole, its cells read off. -/
theorem rowIs_of {w : World} {g : Nat} {t : TypeId} {n : Nat} (L : List Value) (f : Nat → Value) (hg : w.heap[g]? = some (.cells L.toArray t (0, 0))) (hn : L.length = n) (hf : ∀ i, i < n → L[i]? = some (f i)) : w.rowIs g t n f :=
  ⟨L.toArray, hg, by simpa using hn, fun i hi => by simpa using hf i hi⟩

/-- 'copy(dst, src)' into a new row of just src's length, laid by make: whatever src's address where it has no element. -/
theorem copy_made {T E : TypeId} {z : Value} {bytes : Nat} (hT : Yba.prog.underlying T = some (.slice E)) (hE : (Yba.prog.info? E).map (fun i => (i.zero, i.size, i.bytes)) = some (some z, 1, bytes))
    (w0 w : World) (a : Option Addr) (len cap : Nat) (f : Nat → Value) (hb0 : Below w0.heap.size w0 w)
    (ha : 0 < len → ∃ b off, a = some ⟨b, off, none⟩ ∧ b < w0.heap.size ∧ ∀ i, i < len → w0.cell? ⟨b, off + i, none⟩ = some (f i)) (h1 : ∀ i, (f i).oneCell' = true) :
    ∃ W2, (∀ ty, (Builtin.copy_ #[T, T] ty #[.slice (some ⟨w.heap.size, 0, none⟩) len len, .slice a len cap]).run Yba.prog (w.alloc (.cells (madeCells #[z] len) E)) = .ok (.int .i64 len) W2) ∧
      Below w0.heap.size w0 W2 ∧ W2.rowIs w.heap.size E len f ∧ Below w.heap.size w W2 := by
  have hsz : (Yba.prog.info? E).map (·.size) = some 1 := by
    obtain ⟨i, hi, _, hs, _⟩ := info_parts hE
    simp [hi, hs]
  have hbw : Below w0.heap.size w0 (w.alloc (.cells (madeCells #[z] len) E)) := hb0.alloc hb0.size _
  by_cases h0 : len = 0
  · subst h0
    refine ⟨_, fun ty => run_copy_none (P := Yba.prog) _ T T ty E _ _ 0 0 0 cap hT hsz (by simp), hbw, ⟨_, Go.Deep.blk_alloc_new _ _, size_madeCells _ _, fun i hi => by omega⟩, (Below.refl _ _).alloc (Nat.le_refl _) _⟩
  · obtain ⟨b, off, rfl, hb, hc⟩ := ha (by omega)
    have hl : ((List.range len).map f).length = len := by simp
    have hgb : (w.alloc (.cells (madeCells #[z] len) E)).heap[w.heap.size]? = some (.cells (madeCells #[z] len) E (0, 0)) := Go.Deep.blk_alloc_new _ _
    have hrun := fun ty => run_copy_row (P := Yba.prog) (w.alloc (.cells (madeCells #[z] len) E)) T T ty E w.heap.size 0 len len ⟨b, off, none⟩ len cap (madeCells #[z] len) E ((List.range len).map f) hT hsz hgb (by simp) (by
      intro j v hj
      have hjl : j < len := by
        by_cases h : j < len
        · exact h
        · rw [List.getElem?_eq_none (by simp; omega)] at hj; cases hj
      have hv : v = f j := by
        rw [List.getElem?_map, List.getElem?_range hjl] at hj
        simpa using hj.symm
      subst hv
      rw [addr_add, hbw.cell (p := ⟨b, off + j, none⟩) hb]
      exact hc j hjl) (by simp [size_madeCells]) (by
      intro v hv
      obtain ⟨i, _, rfl⟩ := List.mem_map.1 hv
      exact h1 i)
    rw [hl] at hrun
    refine ⟨_, fun ty => hrun ty, below_setRow hbw hb0.size _, ?_, below_setRow ((Below.refl _ _).alloc (Nat.le_refl _) _) (Nat.le_refl _) _⟩
    refine rowIs_of ((List.range len).map f) f ?_ (by simp) (fun i hi => by simp [hi])
    rw [setRow_heap _ _ (madeCells #[z] len) _ E _ hgb]
    have hd : (madeCells #[z] len).toList.drop len = [] := List.drop_eq_nil_of_le (by simp [size_madeCells])
    simp [hd]
end Go.Proofs.Ybulkdpcq
