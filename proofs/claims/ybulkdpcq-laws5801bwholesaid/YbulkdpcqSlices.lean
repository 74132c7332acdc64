/-
  slices.Clone and slices.Equal at []int and []bool (functions 7, 8, 10, 11): the library's own text, walked.
-/
import Derived.Test.YbulkdpcqCount
import Derived.Deep.QuietTactic
import Derived.BigQuiet
import Derived.Lib.Walk
namespace Go.Proofs.Ybulkdpcq
open Go.RowKit

theorem came_owns {w : World} {base : Nat} {e : TypeId} {v : Value} {n : Nat} {V : Nat → Value} (h : w.ownsRow base e 1 v n ((List.range n).map V)) :
    ∃ a cap, v = .slice a n cap ∧ CameIn w a n V ∧ ∀ b off, a = some ⟨b, off, none⟩ → base ≤ b := by
  rcases h.2 with ⟨rfl, rfl⟩ | ⟨g, cap, cur, rfl, hb, hg, hn, _, hs, ht⟩
  · exact ⟨none, 0, rfl, ⟨fun _ => rfl, fun h => absurd h (by omega)⟩, fun b off h => (by cases h)⟩
  · refine ⟨_, cap, rfl, ⟨fun h => (by cases h), fun hp => ⟨g, 0, rfl, ?_, fun i hi => ?_⟩⟩, fun b off h => ?_⟩
    · obtain ⟨hlt, _⟩ := Array.getElem?_eq_some_iff.1 hg
      exact hlt
    · have hc : cur[i]? = some (V i) := by
        have h1 : (cur.toList.take (n * 1))[i]? = some (V i) := by rw [ht]; simp [hi]
        rw [List.getElem?_take_of_lt (by omega)] at h1
        simpa using h1
      simp [World.cell?, hg, hc]
    · simp only [Option.some.injEq, Addr.mk.injEq] at h
      omega

theorem clone_cells {w w1 : World} {a : Addr} {n : Nat} {V : Nat → Value} (h : CameIn w (some a) n V) (hk : ∀ b off, b < w.heap.size → w1.cell? ⟨b, off, none⟩ = w.cell? ⟨b, off, none⟩) :
    ∀ j u, ((List.range n).map V)[j]? = some u → w1.cell? (a.add j) = some u := by
  intro j u hj
  have hjn : j < n := by
    have := (List.getElem?_eq_some_iff.1 hj).1
    simpa using this
  have hu : u = V j := by simpa [hjn] using hj.symm
  obtain ⟨b, off, he, hb, hc⟩ := h.2 (by omega)
  obtain rfl : a = ⟨b, off, none⟩ := by simpa using he
  rw [addr_add, hk _ _ hb, hc j hjn, hu]

set_option maxHeartbeats 1000000 in
set_option maxRecDepth 100000 in
theorem clone_int (w : World) (a : Option Addr) (n cap : Nat) (z : Nat → Int) (hn : n ≤ 4096) (h : CameIn w a n (fun i => .int .i64 (z i))) :
    Calls Yba.prog 7 #[.slice a n cap] w fun e w' => ∃ a' cap', e = .returned (.slice a' n cap') ∧ CameIn w' a' n (fun i => .int .i64 (z i)) ∧ (∀ b off, a' = some ⟨b, off, none⟩ → w.heap.size ≤ b) ∧ Below w.heap.size w w' := by
  have he := fun w a n c => Lib.run_eql_slice_nil (P := Yba.prog) w 31 3 a n c 0 0 Yba.underlying31
  cases a with
  | none =>
    obtain rfl := h.1 rfl
    go_enter Yba.func7, Yba.ntmps7
    go_wp2
    go_ret
    exact ⟨none, 0, rfl, ⟨fun _ => rfl, fun h => absurd h (by omega)⟩, fun b off h => (by cases h), Below.refl _ _⟩
  | some x =>
    obtain ⟨i0, hi, hz0, hz1, hz2⟩ := info_parts Yba.info3
    have A : Hid (CameIn w (some x) n (fun i => .int .i64 (z i))) := h
    clear h
    go_enter Yba.func7, Yba.ntmps7
    go_wp2_with (at_builtin; refine wpList_append_own _ rfl _ _ 31 rfl w.heap.size 3 i0 (.int .i64 0) 1 8 Yba.underlying31 hi hz0 hz1 hz2 rfl (by decide) _ _ _ rfl (World.ownsRow_made w #[] 0 (Nat.le_refl _) (Nat.zero_le _) rfl) x n cap ((List.range n).map (fun i => .int .i64 (z i))) rfl ?qc1 ?qc2 ?qc3 ?qc4 ?qc5 ?qc6 ?_)
    case qc1 => simp
    case qc2 => exact clone_cells A.out (fun b off hb => World.cell?_of_block (Below.heap_alloc w _ b hb))
    case qc3 => intro u hu; obtain ⟨x, _, rfl⟩ := List.mem_map.1 hu; rfl
    case qc4 => unfold maxLen; omega
    case qc5 => omega
    case qc6 => simp
    intro v' w1 hown hgrow hnil
    have HO : Hid (w1.ownsRow w.heap.size 3 1 v' n ((List.range n).map (fun i => .int .i64 (z i)))) := by simpa [Hid] using hown
    clear hown hnil
    go_wp2
    go_ret
    obtain ⟨a', cap', rfl, h1, h2⟩ := came_owns HO.out
    exact ⟨a', cap', rfl, h1, h2, ((Below.refl _ w).alloc (Nat.le_refl _) _).grown hgrow (by simp) (by intro k hk; simp [Value.ownBlock] at hk; omega)⟩

set_option maxHeartbeats 1000000 in
set_option maxRecDepth 100000 in
theorem clone_bool (w : World) (a : Option Addr) (n cap : Nat) (z : Nat → Bool) (hn : n ≤ 4096) (h : CameIn w a n (fun i => .bool (z i))) :
    Calls Yba.prog 8 #[.slice a n cap] w fun e w' => ∃ a' cap', e = .returned (.slice a' n cap') ∧ CameIn w' a' n (fun i => .bool (z i)) ∧ (∀ b off, a' = some ⟨b, off, none⟩ → w.heap.size ≤ b) ∧ Below w.heap.size w w' := by
  have he := fun w a n c => Lib.run_eql_slice_nil (P := Yba.prog) w 38 4 a n c 0 0 Yba.underlying38
  cases a with
  | none =>
    obtain rfl := h.1 rfl
    go_enter Yba.func8, Yba.ntmps8
    go_wp2
    go_ret
    exact ⟨none, 0, rfl, ⟨fun _ => rfl, fun h => absurd h (by omega)⟩, fun b off h => (by cases h), Below.refl _ _⟩
  | some x =>
    obtain ⟨i0, hi, hz0, hz1, hz2⟩ := info_parts Yba.info4
    have A : Hid (CameIn w (some x) n (fun i => .bool (z i))) := h
    clear h
    go_enter Yba.func8, Yba.ntmps8
    go_wp2_with (at_builtin; refine wpList_append_own _ rfl _ _ 38 rfl w.heap.size 4 i0 (.bool false) 1 1 Yba.underlying38 hi hz0 hz1 hz2 rfl (by decide) _ _ _ rfl (World.ownsRow_made w #[] 0 (Nat.le_refl _) (Nat.zero_le _) rfl) x n cap ((List.range n).map (fun i => .bool (z i))) rfl ?qc1 ?qc2 ?qc3 ?qc4 ?qc5 ?qc6 ?_)
    case qc1 => simp
    case qc2 => exact clone_cells A.out (fun b off hb => World.cell?_of_block (Below.heap_alloc w _ b hb))
    case qc3 => intro u hu; obtain ⟨x, _, rfl⟩ := List.mem_map.1 hu; rfl
    case qc4 => unfold maxLen; omega
    case qc5 => omega
    case qc6 => simp
    intro v' w1 hown hgrow hnil
    have HO : Hid (w1.ownsRow w.heap.size 4 1 v' n ((List.range n).map (fun i => .bool (z i)))) := by simpa [Hid] using hown
    clear hown hnil
    go_wp2
    go_ret
    obtain ⟨a', cap', rfl, h1, h2⟩ := came_owns HO.out
    exact ⟨a', cap', rfl, h1, h2, ((Below.refl _ w).alloc (Nat.le_refl _) _).grown hgrow (by simp) (by intro k hk; simp [Value.ownBlock] at hk; omega)⟩

theorem came_drewN {w : World} {a : Option Addr} {n : Nat} {V : Nat → Value} (h : CameIn w a n V) (q : Nat) : CameIn (w.drewN q) a n V := h

set_option maxHeartbeats 1000000 in
theorem equal_int (w : World) (a1 a2 : Option Addr) (n c1 c2 : Nat) (z : Nat → Int) (hn : n ≤ 4096) (h1 : CameIn w a1 n (fun i => .int .i64 (z i))) (h2 : CameIn w a2 n (fun i => .int .i64 (z i))) :
    Calls Yba.prog 11 #[.slice a1 n c1, .slice a2 n c2] w fun e w' => e = .returned (.bool true) ∧ ∃ q, w' = w.drewN q := by
  go_enter Yba.func11, Yba.ntmps11
  go_wp2_with fail
  go_loopg [13] n (fun q i wr => ∃ k : Nat, k ≤ n ∧ q = n - k ∧ i = .int .i64 k ∧ ∃ p, wr = w.drewN p)
  case atStart => exact ⟨0, Nat.zero_le _, by omega, rfl, 0, rfl⟩
  case round =>
    obtain ⟨k, hk, rfl, rfl, p, rfl⟩ := hrel
    by_cases hlt : k < n
    · obtain ⟨b, off, rfl, _, hc⟩ := h1.2 (by omega)
      obtain ⟨b', off', rfl, _, hc'⟩ := h2.2 (by omega)
      have q1 := hc k hlt
      have q2 := hc' k hlt
      clear hc hc'
      go_wp2_with fail
      go_quiet (fail)
      go_wp2_with fail
      go_roundg (n - (k + 1))
      case measure => omega
      case rel => exact ⟨k + 1, by omega, rfl, by go_num, _, rfl⟩
    · go_wp2_with fail
      go_ret
      exact ⟨rfl, _, rfl⟩

set_option maxHeartbeats 1000000 in
theorem equal_bool (w : World) (a1 a2 : Option Addr) (n c1 c2 : Nat) (z : Nat → Bool) (hn : n ≤ 4096) (h1 : CameIn w a1 n (fun i => .bool (z i))) (h2 : CameIn w a2 n (fun i => .bool (z i))) :
    Calls Yba.prog 10 #[.slice a1 n c1, .slice a2 n c2] w fun e w' => e = .returned (.bool true) ∧ ∃ q, w' = w.drewN q := by
  go_enter Yba.func10, Yba.ntmps10
  go_wp2_with fail
  go_loopg [13] n (fun q i wr => ∃ k : Nat, k ≤ n ∧ q = n - k ∧ i = .int .i64 k ∧ ∃ p, wr = w.drewN p)
  case atStart => exact ⟨0, Nat.zero_le _, by omega, rfl, 0, rfl⟩
  case round =>
    obtain ⟨k, hk, rfl, rfl, p, rfl⟩ := hrel
    by_cases hlt : k < n
    · obtain ⟨b, off, rfl, _, hc⟩ := h1.2 (by omega)
      obtain ⟨b', off', rfl, _, hc'⟩ := h2.2 (by omega)
      have q1 := hc k hlt
      have q2 := hc' k hlt
      clear hc hc'
      go_wp2_with fail
      go_quiet (fail)
      go_wp2_with fail
      go_roundg (n - (k + 1))
      case measure => omega
      case rel => exact ⟨k + 1, by omega, rfl, by go_num, _, rfl⟩
    · go_wp2_with fail
      go_ret
      exact ⟨rfl, _, rfl⟩
end Go.Proofs.Ybulkdpcq
