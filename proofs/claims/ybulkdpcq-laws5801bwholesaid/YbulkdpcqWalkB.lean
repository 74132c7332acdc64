/-
  'LawS5801BWhole' (function 4): the walk.
-/
import Derived.Test.YbulkdpcqSlices
import Derived.Test.YbulkdpcqPart
import Derived.Deep.CutBlock
namespace Go.Proofs.Ybulkdpcq
open Go.RowKit

/-- The row of exits, the first k filled. -/
structure HeadB (w wr : World) (n m k g : Nat) (S : Nat → Bool) (ex : Nat → Int) : Prop where
  below : Below w.heap.size w wr
  ge : w.heap.size ≤ g
  row : PartRow wr g 3 n k (fun j => .int .i64 (ex j))
  bd : ∀ j, j < k → S j = false → ex j < (m : Int)

theorem headB_next {w wr : World} {n m k g : Nat} {S : Nat → Bool} {ex : Nat → Int} (T : HeadB w wr n m k g S ex) (e : Int) (he : S k = false → e < (m : Int)) :
    HeadB w (wr.setCell ⟨g, k, none⟩ (.int .i64 e)) n m (k + 1) g S (fun j => if j = k then e else ex j) := by
  obtain ⟨bel, ge, row, bd⟩ := T
  have hV : ∀ j, j < k → (Value.int .i64 (ex j)) = .int .i64 (if j = k then e else ex j) := fun j hj => by rw [if_neg (by omega)]
  refine ⟨bel.setCell (by simpa using ge) _, ge, ?_, fun j hj hs => ?_⟩
  · have h2 := (row.say hV).next
    simp only [if_true] at h2
    exact h2
  · by_cases h : j = k
    · rw [if_pos h]; exact he (h ▸ hs)
    · rw [if_neg h]; exact bd j (by omega) hs

theorem came_row {w : World} {g n : Nat} {t : TypeId} {V : Nat → Value} (h : w.rowIs g t n V) : CameIn w (some ⟨g, 0, none⟩) n V :=
  ⟨fun h => (by cases h), fun _ => ⟨g, 0, rfl, h.lt, fun i hi => by rw [Nat.zero_add]; exact h.cell hi⟩⟩

theorem came_below {w w' : World} {a : Option Addr} {n : Nat} {V : Nat → Value} (h : CameIn w a n V) (hb : Below w.heap.size w w') : CameIn w' a n V := by
  refine ⟨h.1, fun hp => ?_⟩
  obtain ⟨b, off, h1, h2, h3⟩ := h.2 hp
  exact ⟨b, off, h1, Nat.lt_of_lt_of_le h2 hb.size, fun i hi => (hb.cell (p := ⟨b, off + i, none⟩) h2).trans (h3 i hi)⟩

/-- The exits, their copy and the spies' copy, in blocks of the call's own that lie apart. -/
structure TailB (w wr : World) (n : Nat) (S : Nat → Bool) (ex : Nat → Int) (aE aS : Option Addr) (top : Nat) : Prop where
  below : Below w.heap.size w wr
  row : wr.rowIs w.heap.size 3 n (fun j => .int .i64 (ex j))
  cE : CameIn wr aE n (fun j => .int .i64 (ex j))
  cS : CameIn wr aS n (fun j => .bool (S j))
  lE : 0 < n → ∀ b off, aE = some ⟨b, off, none⟩ → b < top
  lS : 0 < n → ∀ b off, aS = some ⟨b, off, none⟩ → b < top

theorem lt_of_came {w : World} {a : Option Addr} {n : Nat} {V : Nat → Value} (h : CameIn w a n V) (hp : 0 < n) : ∀ b off, a = some ⟨b, off, none⟩ → b < w.heap.size := by
  intro b off e
  obtain ⟨b', off', h1, h2, _⟩ := h.2 hp
  rw [e] at h1
  simp only [Option.some.injEq, Addr.mk.injEq] at h1
  omega

theorem tailB_of {w wr w1 w2 : World} {n : Nat} {S : Nat → Bool} {ex : Nat → Int} {aE aS : Option Addr} (hB : Below w.heap.size w wr) (hR : wr.rowIs w.heap.size 3 n (fun j => .int .i64 (ex j)))
    (hE1 : CameIn w1 aE n (fun j => .int .i64 (ex j))) (_hE2 : ∀ b off, aE = some ⟨b, off, none⟩ → wr.heap.size ≤ b) (hbE : Below wr.heap.size wr w1)
    (hS1 : CameIn w2 aS n (fun j => .bool (S j))) (_hS2 : ∀ b off, aS = some ⟨b, off, none⟩ → w1.heap.size ≤ b) (hbS : Below w1.heap.size w1 w2) : TailB w w2 n S ex aE aS w2.heap.size := by
  have hr1 : w1.rowIs w.heap.size 3 n (fun j => .int .i64 (ex j)) := hR.of_block (hbE.block _ hR.lt)
  have hr2 : w2.rowIs w.heap.size 3 n (fun j => .int .i64 (ex j)) := hr1.of_block (hbS.block _ hr1.lt)
  have hs1 := hbE.size
  have hs2 := hbS.size
  have hs0 := hB.size
  exact ⟨(hB.trans (hbE.mono hs0)).trans (hbS.mono (by omega)), hr2, came_below hE1 hbS, hS1, fun hp => lt_of_came (came_below hE1 hbS) hp, fun hp => lt_of_came hS1 hp⟩

theorem TailB.later {w wr w' : World} {n : Nat} {S : Nat → Bool} {ex : Nat → Int} {aE aS : Option Addr} {top : Nat} (h : TailB w wr n S ex aE aS top) (hb : Below wr.heap.size wr w') : TailB w w' n S ex aE aS top :=
  ⟨h.below.trans (hb.mono h.below.size), h.row.of_block (hb.block _ h.row.lt), came_below h.cE hb, came_below h.cS hb, h.lE, h.lS⟩

/-- .. and the counts. -/
structure DoneB (w wr : World) (n m : Nat) (S : Nat → Bool) (ex : Nat → Int) (aE aS : Option Addr) (gC : Nat) : Prop where
  below : Below w.heap.size w wr
  row : wr.rowIs w.heap.size 3 n (fun j => .int .i64 (ex j))
  cE : CameIn wr aE n (fun j => .int .i64 (ex j))
  cS : CameIn wr aS n (fun j => .bool (S j))
  rC : wr.rowIs gC 3 m (fun t => .int .i64 (cnt S ex t n))

theorem TailB.counted {w wr w' : World} {n m : Nat} {S : Nat → Bool} {ex : Nat → Int} {aE aS : Option Addr} {gC : Nat} (h : TailB w wr n S ex aE aS gC) (hr : w'.rowIs gC 3 m (fun t => .int .i64 (cnt S ex t n))) (hg : wr.grownBy w' (some gC)) (hge : w.heap.size ≤ gC) (hne : w.heap.size ≠ gC) :
    DoneB w w' n m S ex aE aS gC :=
  ⟨h.below.grown hg h.below.size (fun k hk => by have : gC = k := by simpa using hk
                                                 omega), rowIs_grown h.row hg hne, came_grown h.cE hg (fun hp b off e => by have := h.lE hp b off e; omega), came_grown h.cS hg (fun hp b off e => by have := h.lS hp b off e; omega), hr⟩

set_option maxHeartbeats 4000000 in
set_option maxRecDepth 100000 in
theorem walkB (a0 : Option Addr) (n cap0 : Nat) (S : Nat → Bool) (a1 : Option Addr) (len1 cap1 : Nat) (z1 : Nat → Int) (a2 : Option Addr) (m cap2 : Nat) (z2 : Nat → Int) (w : World)
    (hn : n ≤ 4096) (hm : m ≤ 4096) (hl1 : len1 ≤ 1000000000000000)
    (h0 : CameIn w a0 n (fun i => .bool (S i))) (h1 : CameIn w a1 len1 (fun i => .int .i64 (z1 i))) (h2 : CameIn w a2 m (fun i => .int .i64 (z2 i))) :
    Calls Yba.prog 4 #[.slice a0 n cap0, .slice a1 len1 cap1, .slice a2 m cap2] w fun e w' => e = .returned (.bool true) ∧ Below w.heap.size w w' := by
  have hmk := fun w => run_make_row' (P := Yba.prog) 31 3 (.int .i64 0) 8 Yba.underlying31 Yba.info3 rfl .i64 .i64 n (by omega) (by omega) w
  have T0 : HeadB w (w.alloc (.cells (madeCells #[.int .i64 0] n) 3)) n m 0 w.heap.size S (fun _ => 0) := ⟨(Below.refl _ _).alloc (Nat.le_refl _) _, Nat.le_refl _, .start (row_made w (.int .i64 0) n 3) _, fun j hj => absurd hj (Nat.not_lt_zero _)⟩
  go_enter Yba.func4, Yba.ntmps4
  go_wp2_with fail
  clear hmk
  go_loopg [9] n (fun q i wr => ∃ (k : Nat) (ex : Nat → Int), k ≤ n ∧ q = n - k ∧ i = .int .i64 k ∧ HeadB w wr n m k w.heap.size S ex)
  case atStart => exact ⟨0, _, Nat.zero_le _, by omega, rfl, T0⟩
  case round =>
    obtain ⟨k, ex, hk, rfl, rfl, T⟩ := hrel
    clear T0
    by_cases hlt : k < n
    · obtain ⟨b, off, rfl, hbw, hc⟩ := h0.2 (by omega)
      have c0 := (T.below.cell (p := ⟨b, off + k, none⟩) hbw).trans (hc k hlt)
      obtain ⟨v0, p0, f0⟩ := T.row.spot hlt
      clear hc
      by_cases hk1 : k < len1
      · obtain ⟨b1, off1, rfl, hbw1, hc1⟩ := h1.2 (by omega)
        have c1 := (T.below.cell (p := ⟨b1, off1 + k, none⟩) hbw1).trans (hc1 k hk1)
        clear hc1
        cases hs : S k with
        | true =>
          simp only [hs] at c0
          have HS : Hid (S k = true) := hs
          clear hs
          go_wp2_with fail
          go_roundg (n - (k + 1))
          case measure => omega
          case rel => exact ⟨k + 1, _, by omega, rfl, by go_num, headB_next T _ (fun h => by rw [HS.out] at h; cases h)⟩
        | false =>
          simp only [hs] at c0
          clear hs
          by_cases hge : (m : Int) ≤ z1 k
          · by_cases hm0 : m = 0
            · have hb : ((m : Int) == 0) = true := by simp [hm0]
              clear hm0
              go_wp2_with fail
              go_roundg (n - (k + 1))
              case measure => omega
              case rel => exact ⟨k + 1, _, by omega, rfl, by go_num, headB_next T _ (fun _ => by omega)⟩
            · have hb : ((m : Int) == 0) = false := by simp [hm0]
              go_wp2_with fail
              go_roundg (n - (k + 1))
              case measure => omega
              case rel => exact ⟨k + 1, _, by omega, rfl, by go_num, headB_next T _ (fun _ => Int.emod_lt_of_pos _ (by omega))⟩
          · go_wp2_with fail
            go_roundg (n - (k + 1))
            case measure => omega
            case rel => exact ⟨k + 1, _, by omega, rfl, by go_num, headB_next T _ (fun _ => by omega)⟩
      · cases hs : S k with
        | true =>
          simp only [hs] at c0
          have HS : Hid (S k = true) := hs
          clear hs
          go_wp2_with fail
          go_roundg (n - (k + 1))
          case measure => omega
          case rel => exact ⟨k + 1, _, by omega, rfl, by go_num, headB_next T _ (fun h => by rw [HS.out] at h; cases h)⟩
        | false =>
          simp only [hs] at c0
          clear hs
          go_wp2_with fail
          go_roundg (n - (k + 1))
          case measure => omega
          case rel => exact ⟨k + 1, _, by omega, rfl, by go_num, headB_next T _ (fun _ => by omega)⟩
    · obtain rfl : n = k := by omega
      clear h1
      have hR := T.row.full
      have hB := T.below
      have hbd := T.bd
      clear T
      go_wp2_with fail
      refine (clone_int wr (some ⟨w.heap.size, 0, none⟩) n n ex hn (came_row hR)).mono ?_
      rintro e w1 ⟨aE, cE, rfl, hE1, hE2, hbE⟩
      go_wp2_with fail
      have hB1 : Below w.heap.size w w1 := hB.trans (hbE.mono hB.size)
      refine (clone_bool w1 a0 n cap0 S hn (came_below h0 hB1)).mono ?_
      rintro e w2 ⟨aS, cS, rfl, hS1, hS2, hbS⟩
      have U := tailB_of hB hR hE1 hE2 hbE hS1 hS2 hbS
      clear hR hE1 hE2 hbE hS1 hS2 hbS hB1 hB
      obtain ⟨W3, hcp, hB3, hr3, hw3⟩ := copy_made Yba.underlying31 Yba.info3 w w2 a2 m cap2 (fun i => .int .i64 (z2 i)) U.below h2.2 (fun _ => rfl)
      have hmk2 := fun w => run_make_row' (P := Yba.prog) 31 3 (.int .i64 0) 8 Yba.underlying31 Yba.info3 rfl .i64 .i64 m (by omega) (by omega) w
      go_wp2_with fail
      clear hcp hmk2
      have hge := U.below.size
      have U3 := U.later hw3
      refine (count_any W3 a0 n cap0 S w.heap.size ex w2.heap.size m _ (by omega) (by omega) (came_below h0 hB3) (fun hp b off hb => by have := lt_of_came h0 hp b off hb; omega) U3.row (by have := U.row.lt; omega) hr3 hbd).mono ?_
      rintro e w4 ⟨rfl, hr4, hgr4⟩
      have V := U3.counted hr4 hgr4 hge (by have := U.row.lt; omega)
      have hhn := hon_le S n
      clear hr4 hgr4 U3 U hB3 hr3 hw3 hbd
      go_wp2_with fail
      go_loopg [15, 16] n (fun q h i wr => ∃ k : Nat, k ≤ n ∧ q = n - k ∧ i = .int .i64 k ∧ h = .int .i64 (hon S k) ∧ DoneB w wr n m S ex aE aS w2.heap.size)
      case atStart => exact ⟨0, Nat.zero_le _, by omega, rfl, rfl, V⟩
      case round =>
        obtain ⟨k, hk, rfl, rfl, rfl, V1⟩ := hrel
        clear V
        have hhk := hon_le S k
        by_cases hlt : k < n
        · obtain ⟨b, off, rfl, _, hc⟩ := V1.cS.2 (by omega)
          have q1 := hc k hlt
          clear hc
          cases hs : S k with
          | true =>
            simp only [hs] at q1
            have HH : Hid (hon S (k + 1) = hon S k) := show hon S (k + 1) = hon S k by simp [hon, hs]
            clear hs
            go_wp2_with fail
            go_roundg (n - (k + 1))
            case measure => omega
            case rel => exact ⟨k + 1, by omega, rfl, by go_num, by rw [HH.out], V1⟩
          | false =>
            simp only [hs] at q1
            have HH : Hid (hon S (k + 1) = hon S k + 1) := show hon S (k + 1) = hon S k + 1 by simp [hon, hs]
            clear hs
            go_wp2_with fail
            go_roundg (n - (k + 1))
            case measure => omega
            case rel => exact ⟨k + 1, by omega, rfl, by go_num, by rw [HH.out]; go_num, V1⟩
        · obtain rfl : n = k := by omega
          go_wp2_with fail
          go_loopg [17] m (fun q i wr => ∃ t : Nat, t ≤ m ∧ q = m - t ∧ i = .int .i64 t ∧ DoneB w wr n m S ex aE aS w2.heap.size)
          case atStart => exact ⟨0, Nat.zero_le _, by omega, rfl, V1⟩
          case round =>
            obtain ⟨t, ht, rfl, rfl, V2⟩ := hrel
            clear V1
            by_cases hlt2 : t < m
            · go_wp2_with fail
              go_loopg [18, 19] n (fun q cv i wr => ∃ v : Nat, v ≤ n ∧ q = n - v ∧ i = .int .i64 v ∧ cv = .int .i64 (cnt S ex t v) ∧ DoneB w wr n m S ex aE aS w2.heap.size)
              case atStart => exact ⟨0, Nat.zero_le _, by omega, rfl, rfl, V2⟩
              case round =>
                obtain ⟨v, hv, rfl, rfl, rfl, V3⟩ := hrel
                clear V2
                have hcv := cnt_le S ex t v
                have hhv := hon_le S v
                by_cases hlt3 : v < n
                · obtain ⟨b, off, rfl, _, hc⟩ := V3.cS.2 (by omega)
                  obtain ⟨b', off', rfl, _, hc'⟩ := V3.cE.2 (by omega)
                  have q1 := hc v hlt3
                  have q2 := hc' v hlt3
                  clear hc hc'
                  cases hs : S v with
                  | true =>
                    simp only [hs] at q1
                    have HH : Hid (cnt S ex t (v + 1) = cnt S ex t v) := show cnt S ex t (v + 1) = _ by simp [cnt, hs]
                    clear hs
                    go_wp2_with fail
                    go_roundg (n - (v + 1))
                    case measure => omega
                    case rel => exact ⟨v + 1, by omega, rfl, by go_num, by rw [HH.out], V3⟩
                  | false =>
                    simp only [hs] at q1
                    by_cases hx : ex v = (t : Int)
                    · have HH : Hid (cnt S ex t (v + 1) = cnt S ex t v + 1) := show cnt S ex t (v + 1) = _ by simp [cnt, hs, hx]
                      have hb : (ex v == (t : Int)) = true := by simp [hx]
                      clear hs hx
                      go_wp2_with fail
                      go_roundg (n - (v + 1))
                      case measure => omega
                      case rel => exact ⟨v + 1, by omega, rfl, by go_num, by rw [HH.out]; go_num, V3⟩
                    · have HH : Hid (cnt S ex t (v + 1) = cnt S ex t v) := show cnt S ex t (v + 1) = _ by simp [cnt, hx]
                      have hb : (ex v == (t : Int)) = false := by simp [hx]
                      clear hs hx
                      go_wp2_with fail
                      go_roundg (n - (v + 1))
                      case measure => omega
                      case rel => exact ⟨v + 1, by omega, rfl, by go_num, by rw [HH.out], V3⟩
                · obtain rfl : n = v := by omega
                  have q4 := V3.rC.cell hlt2
                  go_wp2_with fail
                  go_roundg (m - (t + 1))
                  case measure => omega
                  case rel => exact ⟨t + 1, by omega, rfl, by go_num, V3⟩
            · go_wp2_with fail
              refine (equal_bool wr a0 aS n cap0 cS S hn (came_below h0 V2.below) V2.cS).mono ?_
              rintro e w5 ⟨rfl, q, rfl⟩
              go_wp2_with fail
              refine (equal_int (wr.drewN q) (some ⟨w.heap.size, 0, none⟩) aE n n cE ex hn (came_row V2.row) V2.cE).mono ?_
              rintro e w6 ⟨rfl, q', rfl⟩
              go_wp2_with fail
              go_ret
              exact ⟨rfl, below_drewN V2.below _⟩
end Go.Proofs.Ybulkdpcq
