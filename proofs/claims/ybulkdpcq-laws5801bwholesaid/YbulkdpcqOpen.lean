/-
  Slices that came in, opened by the index: integers, bools, pairs of integers. No Go text is walked here.
-/
import Derived.Test.YbulkdpcqRows
import Derived.WalkKit
import Derived.ProofKit
import Derived.SizedLaws
import Derived.Deep.SlicePairs
namespace Go.Proofs.Ybulkdpcq
open Go.ChangeShapes Go.WideShapes Go.RowKit Go.Deep

/-- A row of cells that came in: the address where there is an element; the cells by the index. -/
def CameIn (w : World) (a : Option Addr) (len : Nat) (V : Nat → Value) : Prop :=
  (a = none → len = 0) ∧ (0 < len → ∃ b off, a = some ⟨b, off, none⟩ ∧ b < w.heap.size ∧ ∀ i, i < len → w.cell? ⟨b, off + i, none⟩ = some (V i))

/-- How long a datum is. -/
def LenIn {H : Type} (d : DataW H) (len : Nat) : Prop := len = 0 ∨ ∃ elems spare, d = .slice elems spare ∧ len ≤ elems.length + spare.length

theorem cell_lt {w : World} {a : Addr} {v : Value} (h : w.cell? a = some v) : a.block < w.heap.size := by
  by_cases hb : a.block < w.heap.size
  · exact hb
  · have : w.heap[a.block]? = none := Array.getElem?_eq_none (by omega)
    simp [World.cell?, this] at h

section
variable {H : Type} {enc : TypeId × Value → H} {P : Program} {w : World} {t e : TypeId} {fuel : Nat} {a : Option Addr} {len cap : Nat} {d : DataW H} {p : List MemPlace}

theorem open_cells (ht : P.underlying t = some (.slice e)) (hc : P.cellsOf e = 1) (h : DataW.trod enc P w 0 (fun _ => true) true fuel t [.slice a len cap] = some (d, p)) :
    ∃ (V : Nat → Value) (D : Nat → DataW H) (Pl : Nat → List MemPlace) (n : Nat), CameIn w a len V ∧ LenIn d len ∧ ∀ i, i < len → DataW.trod enc P w 0 (fun _ => true) true n e [V i] = some (D i, Pl i) := by
  rcases open_slice1 ht hc h with ⟨hcs, _⟩ | ⟨x, l, c, m, n, V, D, Pl, hcs, _, hl, _, hm, hx, hcell⟩
  · simp only [List.cons.injEq, Value.slice.injEq, and_true] at hcs
    obtain ⟨rfl, rfl, rfl⟩ := hcs
    exact ⟨fun _ => .bool false, fun _ => d, fun _ => [], 0, ⟨fun _ => rfl, fun h => absurd h (by omega)⟩, .inl rfl, fun i hi => absurd hi (by omega)⟩
  · simp only [List.cons.injEq, Value.slice.injEq, and_true] at hcs
    obtain ⟨rfl, rfl, rfl⟩ := hcs
    simp only [if_true] at hm
    subst hm
    simp only [Prod.mk.injEq] at hx
    refine ⟨V, D, Pl, n, ⟨fun h => (by cases h), fun h => ?_⟩, .inr ⟨_, _, hx.1, by simp⟩, fun i hi => (hcell i (by omega)).2⟩
    obtain ⟨b, off, sp⟩ := x
    have hsp : sp = none := by simpa [Addr.add] using World.cell?_spot (hcell 0 (by omega)).1
    subst hsp
    have hc0 := (hcell 0 (by omega)).1
    refine ⟨b, off, rfl, ?_, fun i hi => ?_⟩
    · have := cell_lt hc0
      rwa [add_plain] at this
    · have := (hcell i (by omega)).1
      rwa [add_plain] at this

theorem open_row {k : IntKind} (ht : P.underlying t = some (.slice e)) (he : P.underlying e = some (.int k)) (hc : P.cellsOf e = 1) (h : DataW.trod enc P w 0 (fun _ => true) true fuel t [.slice a len cap] = some (d, p)) :
    ∃ z : Nat → Int, CameIn w a len (fun i => .int k (z i)) ∧ LenIn d len ∧ ∀ i, i < len → (Lit.int k (z i)).wf = true := by
  obtain ⟨V, D, Pl, n, hV, hL, hD⟩ := open_cells ht hc h
  obtain ⟨z, hz⟩ := choose_lt (p := fun i (m : Int) => V i = .int k m ∧ (Lit.int k m).wf = true) (n := len) (fun i hi => by
    obtain ⟨m, h1, _, h3⟩ := DataW.trod_int he (hD i hi)
    exact ⟨m, by simpa using h1, h3⟩)
  refine ⟨z, ⟨hV.1, fun h => ?_⟩, hL, fun i hi => (hz i hi).2⟩
  obtain ⟨b, off, h1, h2, h3⟩ := hV.2 h
  exact ⟨b, off, h1, h2, fun i hi => by rw [h3 i hi, (hz i hi).1]⟩

theorem open_bits (ht : P.underlying t = some (.slice e)) (he : P.underlying e = some .bool) (hc : P.cellsOf e = 1) (h : DataW.trod enc P w 0 (fun _ => true) true fuel t [.slice a len cap] = some (d, p)) :
    ∃ z : Nat → Bool, CameIn w a len (fun i => .bool (z i)) ∧ LenIn d len := by
  obtain ⟨V, D, Pl, n, hV, hL, hD⟩ := open_cells ht hc h
  obtain ⟨z, hz⟩ := choose_lt (p := fun i (m : Bool) => V i = .bool m) (n := len) (fun i hi => by
    obtain ⟨m, h1, _⟩ := DataW.trod_bool he (hD i hi)
    exact ⟨m, by simpa using h1⟩)
  refine ⟨z, ⟨hV.1, fun h => ?_⟩, hL⟩
  obtain ⟨b, off, h1, h2, h3⟩ := hV.2 h
  exact ⟨b, off, h1, h2, fun i hi => by rw [h3 i hi, hz i hi]⟩

theorem sized_len {ts : List TypeId} {ds : List (DataW H)} {j B : Nat} (hsz : (DataW.weightsEach P ts ds).all (· ≤ reachBytes) = true) (ht : ts[j]? = some t) (hd : ds[j]? = some d) (hu : P.underlying t = some (.slice e)) (hB : P.bytesOf e = B) (hL : LenIn d len) :
    len * B ≤ 140737488351232 := by
  rcases hL with rfl | ⟨elems, spare, rfl, hl⟩
  · omega
  · have h := sized_slice hsz ht hd hu
    rw [hB] at h
    have h2 : len * B ≤ (elems.length + spare.length) * B := Nat.mul_le_mul_right _ hl
    simp only [reachBytes] at h
    omega
end

section
variable {H : Type} {enc : TypeId × Value → H} {P : Program} {w : World} {t e : TypeId} {fuel : Nat} {a : Option Addr} {len cap : Nat} {d : DataW H} {p : List MemPlace}
theorem open_pairs {k : IntKind} {f0 f1 : Field} (ht : P.underlying t = some (.slice e)) (he : P.underlying e = some (.struct #[f0, f1])) (ce : P.cellsOf e = 2) (o0 : f0.offset = 0) (o1 : f1.offset = 1)
    (u0 : P.underlying f0.type = some (.int k)) (u1 : P.underlying f1.type = some (.int k)) (c0 : P.cellsOf f0.type = 1) (c1 : P.cellsOf f1.type = 1)
    (h : DataW.trod enc P w 0 (fun _ => true) true fuel t [.slice a len cap] = some (d, p)) :
    ∃ x y : Nat → Int, (a = none → len = 0) ∧ LenIn d len ∧
      (0 < len → ∃ b off, a = some ⟨b, off, none⟩ ∧ b < w.heap.size ∧ ∀ i, i < len → w.cell? ⟨b, off + i * 2, none⟩ = some (.int k (x i)) ∧ w.cell? ⟨b, off + i * 2 + 1, none⟩ = some (.int k (y i))) := by
  rcases open_slice_pairs ht he ce o0 o1 c0 c1 h with ⟨hcs, _⟩ | ⟨x, l, c, m, n, V0, V1, D0, D1, P0, P1, hcs, _, hl, _, hm, hx, hcell⟩
  · simp only [List.cons.injEq, Value.slice.injEq, and_true] at hcs
    obtain ⟨rfl, rfl, rfl⟩ := hcs
    exact ⟨fun _ => 0, fun _ => 0, fun _ => rfl, .inl rfl, fun h => absurd h (by omega)⟩
  · simp only [List.cons.injEq, Value.slice.injEq, and_true] at hcs
    obtain ⟨rfl, rfl, rfl⟩ := hcs
    simp only [if_true] at hm
    subst hm
    simp only [Prod.mk.injEq] at hx
    obtain ⟨z0, hz0⟩ := choose_lt (p := fun i (q : Int) => V0 i = .int k q) (n := len) (fun i hi => by
      obtain ⟨q, h1, _, _⟩ := DataW.trod_int u0 (hcell i (by omega)).2.2.1
      exact ⟨q, by simpa using h1⟩)
    obtain ⟨z1, hz1⟩ := choose_lt (p := fun i (q : Int) => V1 i = .int k q) (n := len) (fun i hi => by
      obtain ⟨q, h1, _, _⟩ := DataW.trod_int u1 (hcell i (by omega)).2.2.2
      exact ⟨q, by simpa using h1⟩)
    refine ⟨z0, z1, fun h => (by cases h), .inr ⟨_, _, hx.1, by simp⟩, fun h => ?_⟩
    obtain ⟨b, off, sp⟩ := x
    have hsp : sp = none := by simpa [Addr.add] using World.cell?_spot (hcell 0 (by omega)).1
    subst hsp
    have hc0 := (hcell 0 (by omega)).1
    refine ⟨b, off, rfl, ?_, fun i hi => ?_⟩
    · have := cell_lt hc0
      rwa [add_plain] at this
    · have h0 := (hcell i (by omega)).1
      have h1 := (hcell i (by omega)).2.1
      rw [add_plain] at h0 h1
      exact ⟨by rw [h0, hz0 i hi], by rw [Nat.add_assoc, h1, hz1 i hi]⟩
end
end Go.Proofs.Ybulkdpcq
