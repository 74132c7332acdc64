/-
  'countExits' (function 9): the walk, and what it counts as plain functions.
-/
import Derived.Test.YbulkdpcqRowsLaw
import Derived.Test.YbulkdpcqOpen
import Derived.Lib.SliceRun
import Derived.Deep.DeepCutAuto
import Derived.Deep.LoopGhost
namespace Go.Proofs.Ybulkdpcq
open Go.RowKit

/-- How many of the first v nodes are no spies. -/
def hon (S : Nat → Bool) : Nat → Nat
  | 0 => 0
  | v + 1 => hon S v + (if S v = true then 0 else 1)
/-- How many of the first v nodes are no spies and exit at t. -/
def cnt (S : Nat → Bool) (E : Nat → Int) (t : Nat) : Nat → Nat
  | 0 => 0
  | v + 1 => cnt S E t v + (if S v = false ∧ E v = (t : Int) then 1 else 0)

theorem hon_le (S : Nat → Bool) : ∀ v, hon S v ≤ v
  | 0 => Nat.le_refl _
  | v + 1 => by
    have := hon_le S v
    unfold hon
    split <;> omega
theorem cnt_le (S : Nat → Bool) (E : Nat → Int) (t : Nat) : ∀ v, cnt S E t v ≤ hon S v
  | 0 => Nat.le_refl _
  | v + 1 => by
    have := cnt_le S E t v
    unfold hon cnt
    cases h : S v
    · simp
      split <;> omega
    · simpa using this

theorem setCells_rep {g : Nat} {t : TypeId} {n : Nat} {z : Value} : ∀ (m o : Nat) (w : World) (F : Nat → Value), w.rowIs g t n F → (w.setCells g o (List.replicate m z)).rowIs g t n (fun j => if o ≤ j ∧ j < o + m then z else F j)
  | 0, o, w, F, h => h.congr fun i _ => by rw [if_neg (by omega)]
  | m + 1, o, w, F, h => by
    have ih := setCells_rep (z := z) m (o + 1) (w.setCell ⟨g, o, none⟩ z) _ (h.set o z)
    refine World.rowIs.congr ih fun i _ => ?_
    by_cases h1 : o + 1 ≤ i ∧ i < o + 1 + m
    · rw [if_pos h1, if_pos (by omega)]
    · rw [if_neg h1]
      by_cases h2 : i = o
      · rw [if_pos h2, if_pos (by omega)]
      · rw [if_neg h2, if_neg (by omega)]

theorem grown_setCells (g : Nat) : ∀ (vs : List Value) (o : Nat) (w : World), w.grownBy (w.setCells g o vs) (some g) ∧ (w.setCells g o vs).heap.size = w.heap.size
  | [], _, w => ⟨⟨rfl, rfl, rfl, Nat.le_refl _, fun _ _ _ => rfl⟩, rfl⟩
  | v :: vs, o, w => by
    obtain ⟨h, hs⟩ := grown_setCells g vs (o + 1) (w.setCell ⟨g, o, none⟩ v)
    have e : (w.setCell ⟨g, o, none⟩ v).heap.size = w.heap.size := by simp
    refine ⟨⟨h.os, h.tape, h.output, Nat.le_trans (Nat.le_of_eq e.symm) h.size, fun k hk hne => ?_⟩, hs.trans e⟩
    have h2 : ((w.setCell ⟨g, o, none⟩ v).setCells g (o + 1) vs).heap[k]? = w.heap[k]? := by
      rw [h.block k (by omega) hne]
      exact Go.Deep.blk_setCell_other _ _ _ _ (fun e => hne (by rw [e]))
    exact h2

theorem zero3 : ∀ w, (zeroValue 3).run Yba.prog w = .ok (.int .i64 0) w := by
  intro w
  obtain ⟨i, hi, hz, _⟩ := info_parts Yba.info3
  simp [zeroValue, typeInfo, hi, hz]

/-- 'clear(count)' on a row of the call's own. -/
theorem clear_row (w : World) (g n c : Nat) (F : Nat → Value) (h : w.rowIs g 3 n F) :
    ∃ W, (∀ ty, (Builtin.clear_ #[31] ty #[.slice (some ⟨g, 0, none⟩) n c]).run Yba.prog w = .ok (.tuple #[]) W) ∧ W.rowIs g 3 n (fun _ => .int .i64 0) ∧ w.grownBy W (some g) ∧ W.heap.size = w.heap.size := by
  by_cases h0 : n = 0
  · subst h0
    refine ⟨w, fun ty => ?_, h.congr (fun i hi => by omega), ⟨rfl, rfl, rfl, Nat.le_refl _, fun _ _ _ => rfl⟩, rfl⟩
    simp [Builtin.clear_, run_underlying Yba.underlying31]
  · refine ⟨_, fun ty => Lib.run_clear_slice (P := Yba.prog) w 31 3 ty (.int .i64 0) Yba.underlying31 zero3 rfl rfl g 0 n c (by omega) (fun j hj => by rw [Nat.zero_add, h.cell hj]; rfl) (fun j _ => h.frozen _), ?_, (grown_setCells g _ 0 w).1, (grown_setCells g _ 0 w).2⟩
    exact (setCells_rep n 0 w F h).congr fun i hi => by rw [if_pos (by omega)]

/-- What is still to be said of memory after a walk that writes block g alone. -/
theorem rowIs_grown {w w' : World} {g b : Nat} {t : TypeId} {n : Nat} {f : Nat → Value} (h : w.rowIs b t n f) (hg : w.grownBy w' (some g)) (hne : b ≠ g) : w'.rowIs b t n f :=
  h.of_block (hg.block b h.lt (fun e => hne (by simpa using e)))

theorem grown_trans {a b c : World} {g : Nat} (h : a.grownBy b (some g)) (k : b.grownBy c (some g)) : a.grownBy c (some g) :=
  ⟨k.os.trans h.os, k.tape.trans h.tape, k.output.trans h.output, Nat.le_trans h.size k.size, fun i hi hne => (k.block i (Nat.lt_of_lt_of_le hi h.size) hne).trans (h.block i hi hne)⟩

theorem grown_setCell (w : World) (g o : Nat) (v : Value) : w.grownBy (w.setCell ⟨g, o, none⟩ v) (some g) := (grown_setCells g [v] o w).1

theorem came_grown {w w' : World} {a : Option Addr} {len : Nat} {V : Nat → Value} {g : Nat} (h : CameIn w a len V) (hg : w.grownBy w' (some g)) (hne : 0 < len → ∀ b off, a = some ⟨b, off, none⟩ → b ≠ g) : CameIn w' a len V := by
  refine ⟨h.1, fun hp => ?_⟩
  obtain ⟨b, off, h1, h2, h3⟩ := h.2 hp
  refine ⟨b, off, h1, Nat.lt_of_lt_of_le h2 hg.size, fun i hi => ?_⟩
  exact hg.cell (h3 i hi) (fun e => hne hp b off h1 (by simpa using e))

set_option maxHeartbeats 400000 in
set_option maxRecDepth 100000 in
theorem count_any (w : World) (aS : Option Addr) (n capS : Nat) (S : Nat → Bool) (gE : Nat) (E : Nat → Int) (gC m : Nat) (F : Nat → Value) (hn : n ≤ 1048576) (_hm : m ≤ 1048576)
    (hS : CameIn w aS n (fun i => .bool (S i))) (hne : 0 < n → ∀ b off, aS = some ⟨b, off, none⟩ → b ≠ gC) (hE : w.rowIs gE 3 n (fun i => .int .i64 (E i))) (hEC : gE ≠ gC) (hC : w.rowIs gC 3 m F)
    (hin : ∀ v, v < n → S v = false → E v < (m : Int)) :
    Calls Yba.prog 9 #[.slice aS n capS, .slice (some ⟨gE, 0, none⟩) n n, .slice (some ⟨gC, 0, none⟩) m m] w fun e w' => e = .returned (.int .i64 (hon S n)) ∧ w'.rowIs gC 3 m (fun t => .int .i64 (cnt S E t n)) ∧ w.grownBy w' (some gC) := by
  obtain ⟨W, hclr, hrow, hgr, _⟩ := clear_row w gC m m F hC
  have hS' := came_grown hS hgr hne
  have hE' := rowIs_grown hE hgr hEC
  clear hC hS hE
  go_enter Yba.func9, Yba.ntmps9
  go_wp2_with fail
  clear hclr
  go_loopg [6, 12] n (fun q h i wr => ∃ k : Nat, k ≤ n ∧ q = n - k ∧ i = .int .i64 k ∧ h = .int .i64 (hon S k) ∧ wr.rowIs gC 3 m (fun t => .int .i64 (cnt S E t k)) ∧ W.grownBy wr (some gC))
  case atStart => exact ⟨0, Nat.zero_le _, by omega, rfl, rfl, hrow, ⟨rfl, rfl, rfl, Nat.le_refl _, fun _ _ _ => rfl⟩⟩
  case round =>
    obtain ⟨k, hk, rfl, rfl, rfl, hr, hg⟩ := hrel
    have hl := hon_le S k
    by_cases hlt : k < n
    · obtain ⟨b, off, rfl, hbw, hc⟩ := (came_grown hS' hg hne).2 (by omega)
      have hck := hc k hlt
      have hek := (rowIs_grown hE' hg hEC).cell hlt
      clear hc hrow
      have HS1 : Hid (hon S (k + 1) = hon S k + if S k = true then 0 else 1) := (rfl : hon S (k + 1) = _)
      cases hs : S k with
      | true =>
        simp only [hs] at hck
        have HR : wr.rowIs gC 3 m (fun t => .int .i64 (cnt S E t (k + 1))) := hr.congr fun t _ => by simp [cnt, hs]
        have HH : Hid (hon S (k + 1) = hon S k) := show hon S (k + 1) = hon S k by simp [hon, hs]
        clear hs HS1
        go_wp2_with fail
        go_roundg (n - (k + 1))
        case measure => omega
        case rel => exact ⟨k + 1, by omega, rfl, by go_num, by rw [HH.out], HR, hg⟩
      | false =>
        simp only [hs] at hck
        have hlm := hin k hlt hs
        have HH : Hid (hon S (k + 1) = hon S k + 1) := show hon S (k + 1) = hon S k + 1 by simp [hon, hs]
        by_cases hneg : E k < 0
        · have HR : wr.rowIs gC 3 m (fun t => .int .i64 (cnt S E t (k + 1))) := hr.congr fun t _ => by
            have : ¬ E k = (t : Int) := by omega
            simp [cnt, this]
          clear hs HS1
          go_wp2_with fail
          go_roundg (n - (k + 1))
          case measure => omega
          case rel => exact ⟨k + 1, by omega, rfl, by go_num, by rw [HH.out]; go_num, HR, hg⟩
        · obtain ⟨u, hu⟩ := Int.eq_ofNat_of_zero_le (Int.not_lt.1 hneg)
          have hum : u < m := by omega
          have hcu := hr.cell hum
          have hfu := hr.frozen u
          have hcl := Nat.le_trans (cnt_le S E u k) hl
          have HR : (wr.setCell ⟨gC, u, none⟩ (.int .i64 (cnt S E u k + 1))).rowIs gC 3 m (fun t => .int .i64 (cnt S E t (k + 1))) := (hr.set u _).congr fun t _ => by
            by_cases ht : t = u
            · subst ht
              simp [cnt, hs, hu]
            · have : ¬ E k = (t : Int) := by omega
              simp [cnt, this, ht]
          rw [hu] at hek
          clear hs HS1 hu hneg hlm
          go_wp2_with fail
          go_roundg (n - (k + 1))
          case measure => omega
          case rel => exact ⟨k + 1, by omega, rfl, by go_num, by rw [HH.out]; go_num, HR, grown_trans hg (grown_setCell _ _ _ _)⟩
    · have hkn : k = n := by omega
      subst hkn
      clear hrow
      go_wp2_with fail
      go_ret
      exact ⟨rfl, hr, grown_trans hgr hg⟩
end Go.Proofs.Ybulkdpcq
