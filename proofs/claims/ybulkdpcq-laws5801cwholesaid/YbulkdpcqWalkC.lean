import Derived.Test.YbulkdpcqOptimal
import Derived.Test.YbulkdpcqPart
import Derived.Deep.QuietTactic
import Derived.BigQuiet
import Derived.Deep.CutBlock
namespace Go.Proofs.Ybulkdpcq
open Go.RowKit

/-- The five rows, the first k cells of four of them filled. -/
structure FiveC (w wr : World) (n k g0 g1 g2 g3 g4 : Nat) (S : Nat → Bool) (ex : Nat → Int) : Prop where
  below : Below w.heap.size w wr
  ge : w.heap.size ≤ g0
  lt0 : g0 < g1
  lt1 : g1 < g2
  lt2 : g2 < g3
  lt3 : g3 < g4
  r0 : PartRow wr g0 4 n k (fun j => .bool (S j))
  r1 : PartRow wr g1 4 n k (fun j => .bool (S j))
  r2 : PartRow wr g2 3 n k (fun j => .int .i64 (ex j))
  r3 : PartRow wr g3 3 n k (fun j => .int .i64 (ex j))
  r4 : PartRow wr g4 3 n 0 (fun _ => .int .i64 0)
  bd : ∀ j, j < k → -1 ≤ ex j ∧ ex j < (n : Int)

theorem fiveC_start (w : World) (n : Nat) (S : Nat → Bool) :
    FiveC w (((((w.alloc (Obj.cells (madeCells #[Value.bool false] n) 4)).alloc (Obj.cells (madeCells #[Value.bool false] n) 4)).alloc (Obj.cells (madeCells #[Value.int IntKind.i64 0] n) 3)).alloc
      (Obj.cells (madeCells #[Value.int IntKind.i64 0] n) 3)).alloc (Obj.cells (madeCells #[Value.int IntKind.i64 0] n) 3)) n 0 w.heap.size (w.heap.size + 1) (w.heap.size + 1 + 1) (w.heap.size + 1 + 1 + 1) (w.heap.size + 1 + 1 + 1 + 1) S (fun _ => 0) := by
  have e : ∀ (w : World) o, (w.alloc o).heap.size = w.heap.size + 1 := fun w o => by simp
  refine ⟨?_, Nat.le_refl _, by omega, by omega, by omega, by omega, ?_, ?_, ?_, ?_, ?_, fun j hj => absurd hj (Nat.not_lt_zero _)⟩
  · exact (((((Below.refl _ _).alloc (Nat.le_refl _) _).alloc (by simp only [e]; omega) _).alloc (by simp only [e]; omega) _).alloc (by simp only [e]; omega) _).alloc (by simp only [e]; omega) _
  · exact .start (((((row_made w (.bool false) n 4).alloc _).alloc _).alloc _).alloc _) _
  · have h := row_made (w.alloc (Obj.cells (madeCells #[Value.bool false] n) 4)) (.bool false) n 4
    simp only [e] at h
    exact .start (((h.alloc _).alloc _).alloc _) _
  · have h := row_made ((w.alloc (Obj.cells (madeCells #[Value.bool false] n) 4)).alloc (Obj.cells (madeCells #[Value.bool false] n) 4)) (.int .i64 0) n 3
    simp only [e] at h
    exact .start ((h.alloc _).alloc _) _
  · have h := row_made (((w.alloc (Obj.cells (madeCells #[Value.bool false] n) 4)).alloc (Obj.cells (madeCells #[Value.bool false] n) 4)).alloc (Obj.cells (madeCells #[Value.int IntKind.i64 0] n) 3)) (.int .i64 0) n 3
    simp only [e] at h
    exact .start (h.alloc _) _
  · have h := row_made ((((w.alloc (Obj.cells (madeCells #[Value.bool false] n) 4)).alloc (Obj.cells (madeCells #[Value.bool false] n) 4)).alloc (Obj.cells (madeCells #[Value.int IntKind.i64 0] n) 3)).alloc (Obj.cells (madeCells #[Value.int IntKind.i64 0] n) 3)) (.int .i64 0) n 3
    simp only [e] at h
    exact .start h _

theorem fiveC_next {w wr : World} {n k g0 g1 g2 g3 g4 : Nat} {S : Nat → Bool} {ex : Nat → Int} (T : FiveC w wr n k g0 g1 g2 g3 g4 S ex) (e : Int) (he : -1 ≤ e ∧ e < (n : Int)) :
    FiveC w ((((wr.setCell ⟨g0, k, none⟩ (.bool (S k))).setCell ⟨g1, k, none⟩ (.bool (S k))).setCell ⟨g2, k, none⟩ (.int .i64 e)).setCell ⟨g3, k, none⟩ (.int .i64 e)) n (k + 1) g0 g1 g2 g3 g4 S (fun j => if j = k then e else ex j) := by
  obtain ⟨bel, ge, l0, l1, l2, l3, r0, r1, r2, r3, r4, bd⟩ := T
  have hV : ∀ j, j < k → (Value.int .i64 (ex j)) = .int .i64 (if j = k then e else ex j) := fun j hj => by rw [if_neg (by omega)]
  refine ⟨(((bel.setCell (by simp; omega) _).setCell (by simp; omega) _).setCell (by simp; omega) _).setCell (by simp; omega) _, ge, l0, l1, l2, l3, ?_, ?_, ?_, ?_, ?_, fun j hj => ?_⟩
  · exact ((r0.next.other (by simp; omega) _).other (by simp; omega) _).other (by simp; omega) _
  · exact (((r1.other (by simp; omega) _).next).other (by simp; omega) _).other (by simp; omega) _
  · have h := ((r2.say hV).other (a := ⟨g0, k, none⟩) (by simp; omega) (.bool (S k))).other (a := ⟨g1, k, none⟩) (by simp; omega) (.bool (S k))
    have h2 := h.next
    simp only [if_true] at h2
    exact h2.other (by simp; omega) _
  · have h := (((r3.say hV).other (a := ⟨g0, k, none⟩) (by simp; omega) (.bool (S k))).other (a := ⟨g1, k, none⟩) (by simp; omega) (.bool (S k))).other (a := ⟨g2, k, none⟩) (by simp; omega) (.int .i64 e)
    have h2 := h.next
    simp only [if_true] at h2
    exact h2
  · exact (((r4.other (by simp; omega) _).other (by simp; omega) _).other (by simp; omega) _).other (by simp; omega) _
  · by_cases h : j = k
    · rw [if_pos h]; exact he
    · rw [if_neg h]; exact bd j (by omega)

theorem fiveC_count {w wr : World} {n k g0 g1 g2 g3 g4 : Nat} {S : Nat → Bool} {ex : Nat → Int} (T : FiveC w wr n k g0 g1 g2 g3 g4 S ex) (o : Nat) (v : Value) :
    FiveC w (wr.setCell ⟨g4, o, none⟩ v) n k g0 g1 g2 g3 g4 S ex := by
  obtain ⟨bel, ge, l0, l1, l2, l3, r0, r1, r2, r3, r4, bd⟩ := T
  refine ⟨bel.setCell (by simp; omega) _, ge, l0, l1, l2, l3, r0.other (by simp; omega) _, r1.other (by simp; omega) _, r2.other (by simp; omega) _, r3.other (by simp; omega) _, ?_, bd⟩
  obtain ⟨F, h, _⟩ := r4
  exact .start (h.set _ _) _

theorem exit_bd (r : Int) (n : Nat) (hn : n ≤ 4096) : -1 ≤ wrap64 (wrap64 ((IntKind.u64.wrap r).tmod (↑n + 1)) - 1) ∧ wrap64 (wrap64 ((IntKind.u64.wrap r).tmod (↑n + 1)) - 1) < (n : Int) := by
  have h0 : 0 ≤ IntKind.u64.wrap r := by
    simp only [IntKind.wrap]
    exact Int.emod_nonneg _ (by decide)
  have h1 : 0 ≤ (IntKind.u64.wrap r).tmod (↑n + 1) := Int.tmod_nonneg _ h0
  have h2 : (IntKind.u64.wrap r).tmod (↑n + 1) < ↑n + 1 := Int.tmod_lt_of_pos _ (by omega)
  generalize (IntKind.u64.wrap r).tmod (↑n + 1) = q at *
  unfold wrap64
  omega

/-- The five rows behind the call of 'optimal'. -/
structure TailC (w wr : World) (n g0 g1 g2 g3 g4 : Nat) (S : Nat → Bool) (ex : Nat → Int) : Prop where
  below : Below w.heap.size w wr
  r0 : wr.rowIs g0 4 n (fun j => .bool (S j))
  r1 : wr.rowIs g1 4 n (fun j => .bool (S j))
  r2 : wr.rowIs g2 3 n (fun j => .int .i64 (ex j))
  r3 : wr.rowIs g3 3 n (fun j => .int .i64 (ex j))
  r4 : wr.rowIs g4 3 n (fun t => .int .i64 (cnt S ex t n))

theorem TailC.drewN {w wr : World} {n g0 g1 g2 g3 g4 : Nat} {S : Nat → Bool} {ex : Nat → Int} (h : TailC w wr n g0 g1 g2 g3 g4 S ex) (q : Nat) : TailC w (wr.drewN q) n g0 g1 g2 g3 g4 S ex :=
  ⟨below_drewN h.below q, h.r0, h.r1, h.r2, h.r3, h.r4⟩

theorem came_row {w : World} {g n : Nat} {t : TypeId} {V : Nat → Value} (h : w.rowIs g t n V) : CameIn w (some ⟨g, 0, none⟩) n V :=
  ⟨fun h => (by cases h), fun _ => ⟨g, 0, rfl, h.lt, fun i hi => by rw [Nat.zero_add]; exact h.cell hi⟩⟩

theorem tailC_of {w wr w1 : World} {n g0 g1 g2 g3 g4 : Nat} {S : Nat → Bool} {ex : Nat → Int} (T : FiveC w wr n n g0 g1 g2 g3 g4 S ex) (hr : w1.rowIs g4 3 n (fun t => .int .i64 (cnt S ex t n))) (hg : wr.grownBy w1 (some g4)) :
    TailC w w1 n g0 g1 g2 g3 g4 S ex := by
  obtain ⟨bel, ge, l0, l1, l2, l3, r0, r1, r2, r3, r4, bd⟩ := T
  exact ⟨bel.grown hg bel.size (fun k hk => by have : g4 = k := by simpa using hk
                                               omega), rowIs_grown r0.full hg (by omega), rowIs_grown r1.full hg (by omega), rowIs_grown r2.full hg (by omega), rowIs_grown r3.full hg (by omega), hr⟩

/-- What the law's own loop has summed up behind t wards. -/
def sT (isF isL : Bool) (C : Nat → Nat) (t : Nat) : Nat := if isF = true then sumF C t else if isL = true then sumL C t else 0
def iT (isF isL : Bool) (C : Nat → Nat) (t : Nat) : Nat := if isF = true then 0 else if isL = true then intL C t else 0
def lT (isF isL : Bool) (C : Nat → Nat) (t : Nat) : Nat := if isF = true then 0 else if isL = true then leftL C t else 0

section
variable (C : Nat → Nat)
theorem sT_fine (hC : ∀ t, C t ≤ 4096) (isF isL : Bool) (t : Nat) : Fine (sT isF isL C t) := by
  unfold sT
  split
  · exact sumF_fine C t
  · split
    · exact sumL_fine C hC t
    · exact zero_fine
theorem lT_fine (hC : ∀ t, C t ≤ 4096) (isF isL : Bool) (t : Nat) : Fine (lT isF isL C t) := by
  unfold lT
  split
  · exact zero_fine
  · split
    · exact leftL_fine C hC t
    · exact zero_fine
theorem iT_le (hC : ∀ t, C t ≤ 4096) (isF isL : Bool) (t : Nat) : iT isF isL C t ≤ t * 4096 := by
  unfold iT
  split
  · exact Nat.zero_le _
  · split
    · exact intL_le C hC t
    · exact Nat.zero_le _
theorem stF (isL : Bool) (t : Nat) : iT true isL C (t + 1) = iT true isL C t ∧ lT true isL C (t + 1) = lT true isL C t ∧ (0 < C t → sT true isL C (t + 1) = fa (sT true isL C t) 4607182418800017408) ∧ (¬ 0 < C t → sT true isL C (t + 1) = sT true isL C t) :=
  ⟨by simp [iT], by simp [lT], fun h => by simp [sT, sumF, h], fun h => by simp [sT, sumF, h]⟩
theorem stO (t : Nat) : iT false false C (t + 1) = iT false false C t ∧ lT false false C (t + 1) = lT false false C t ∧ sT false false C (t + 1) = sT false false C t := ⟨by simp [iT], by simp [lT], by simp [sT]⟩
theorem stL1 (t : Nat) (h : C t = 1) : iT false true C (t + 1) = iT false true C t ∧ lT false true C (t + 1) = lT false true C t ∧ sT false true C (t + 1) = fa (sT false true C t) 4607182418800017408 :=
  ⟨by simp [iT, intL, h], by simp [lT, leftL, h], by simp [sT, sumL, h]⟩
theorem stL0 (t : Nat) (h : C t = 0) : iT false true C (t + 1) = iT false true C t ∧ lT false true C (t + 1) = lT false true C t ∧ sT false true C (t + 1) = sT false true C t :=
  ⟨by simp [iT, intL, h], by simp [lT, leftL, h], by simp [sT, sumL, h]⟩
theorem stL2 (t : Nat) (h : 2 ≤ C t) : iT false true C (t + 1) = iT false true C t + (C t - 2) ∧
    lT false true C (t + 1) = fa (lT false true C t) (fq (floatOfInt .f64 (((C t : Int) - 2) * ((C t : Int) - 2))) (floatOfInt .f64 (C t))) ∧ sT false true C (t + 1) = fa (sT false true C t) (fq 4611686018427387904 (floatOfInt .f64 (C t))) := by
  have h1 : ¬ C t = 1 := by omega
  exact ⟨by simp [iT, intL, h], by simp [lT, leftL, h], by simp [sT, sumL, h, h1]⟩
end

theorem KindIs.not {isL : Bool} {ks : ByteArray} (h : KindIs true isL ks) : isL = false := by
  rcases h with ⟨_, h, _⟩ | ⟨h, _, _⟩ | ⟨h, _, _⟩
  · exact h
  · cases h
  · cases h

/-- The last test: the float that came back against the law's own. -/
theorem ord_of {isF isL : Bool} {C : Nat → Nat} {n h r X : Nat} (hC : ∀ t, C t ≤ 4096) (hn : n ≤ 4096) (hh : h ≤ 4096) (hg : Got isF isL C n h r) (hX : X = tot isF isL C n) :
    Fine X ∧ (0 < h → FloatKind.f64.format.order r (fq X (floatOfInt .f64 (h : Int))) = some .eq) ∧ (h = 0 → FloatKind.f64.format.order r r = none) := by
  have hf := tot_fine C hC n hn isF isL
  refine ⟨by rw [hX]; exact hf, fun hp => ?_, hg.2⟩
  rw [hg.1 hp, hX]
  exact order_fine (fq_fine hf (ofInt_firm (by omega) (by omega)))

theorem tot_L1 {C : Nat → Nat} {n : Nat} (h : 0 < iT false true C n) : fa (sT false true C n) (fq (lT false true C n) (floatOfInt .f64 (iT false true C n))) = tot false true C n := by
  simp only [iT, sT, lT, tot, Bool.false_eq_true, if_false, if_true] at *
  rw [finL, if_pos h]
theorem tot_L0 {C : Nat → Nat} {n : Nat} (h : ¬ 0 < iT false true C n) : sT false true C n = tot false true C n := by
  simp only [iT, sT, tot, Bool.false_eq_true, if_false, if_true] at *
  rw [finL, if_neg h]

set_option maxHeartbeats 4000000 in
set_option maxRecDepth 100000 in
theorem walkC (a0 : Option Addr) (n cap0 : Nat) (S : Nat → Bool) (a1 : Option Addr) (len1 cap1 : Nat) (z1 : Nat → Int) (sel : Int) (other : ByteArray) (a4 : Option Addr) (len4 cap4 : Nat) (z4 : Nat → Int) (w : World)
    (hn : n ≤ 4096) (hl1 : len1 ≤ 1000000000000000) (hl4 : len4 ≤ 1000000000000000) (hs0 : 0 ≤ sel) (hs1 : sel < 256)
    (h0 : CameIn w a0 n (fun i => .bool (S i))) (h1 : CameIn w a1 len1 (fun i => .int .i64 (z1 i))) (h4 : CameIn w a4 len4 (fun i => .int .i64 (z4 i))) :
    Calls Yba.prog 5 #[.slice a0 n cap0, .slice a1 len1 cap1, .int .u8 sel, .string other, .slice a4 len4 cap4] w fun e w' => e = .returned (.bool true) ∧ Below w.heap.size w w' := by
  have hmk38 := fun w => run_make_row' (P := Yba.prog) 38 4 (.bool false) 1 Yba.underlying38 Yba.info4 rfl .i64 .i64 n (by omega) (by omega) w
  have hmk31 := fun w => run_make_row' (P := Yba.prog) 31 3 (.int .i64 0) 8 Yba.underlying31 Yba.info3 rfl .i64 .i64 n (by omega) (by omega) w
  go_enter Yba.func5, Yba.ntmps5
  go_upto_region 9 with fail
  go_cut [12, 13, 14, 15, 16, 17] from 32 to 45 (fun s12 s13 s14 s15 s16 s17 wx => s17 = .int .i64 0 ∧ ∃ g0 g1 g2 g3 g4, s12 = .slice (some ⟨g0, 0, none⟩) n n ∧ s13 = .slice (some ⟨g1, 0, none⟩) n n ∧ s14 = .slice (some ⟨g2, 0, none⟩) n n ∧ s15 = .slice (some ⟨g3, 0, none⟩) n n ∧ s16 = .slice (some ⟨g4, 0, none⟩) n n ∧ FiveC w wx n 0 g0 g1 g2 g3 g4 S (fun _ => 0))
  case first =>
    go_wp2_with fail
    go_meet
    exact ⟨rfl, _, _, _, _, _, rfl, rfl, rfl, rfl, rfl, fiveC_start w n S⟩
  case rest =>
    obtain ⟨rfl, g0, g1, g2, g3, g4, rfl, rfl, rfl, rfl, rfl, T0⟩ := hcut
    clear hmk38 hmk31
    go_wp2_with fail
    go_loopg [17] n (fun q i wr => ∃ (k : Nat) (ex : Nat → Int), k ≤ n ∧ q = n - k ∧ i = .int .i64 k ∧ FiveC w wr n k g0 g1 g2 g3 g4 S ex)
    case atStart => exact ⟨0, _, Nat.zero_le _, by omega, rfl, T0⟩
    case round =>
      obtain ⟨k, ex, hk, rfl, rfl, T⟩ := hrel
      clear T0
      by_cases hlt : k < n
      · obtain ⟨b, off, rfl, hbw, hc⟩ := h0.2 (by omega)
        have c0 := (T.below.cell (p := ⟨b, off + k, none⟩) hbw).trans (hc k hlt)
        obtain ⟨v0, p0, f0⟩ := T.r0.spot hlt
        obtain ⟨v1, p1, f1⟩ := T.r1.spot hlt
        obtain ⟨v2, p2, f2⟩ := T.r2.spot hlt
        obtain ⟨v3, p3, f3⟩ := T.r3.spot hlt
        obtain ⟨v4, p4, f4⟩ := T.r4.spot hlt
        have t0 := T.ge
        have t1 := T.lt0
        have t2 := T.lt1
        have t3 := T.lt2
        have t4 := T.lt3
        by_cases hk1 : k < len1
        · obtain ⟨b1, off1, rfl, hbw1, hc1⟩ := h1.2 (by omega)
          have c1 := (T.below.cell (p := ⟨b1, off1 + k, none⟩) hbw1).trans (hc1 k hk1)
          by_cases hk4 : k < len4
          · obtain ⟨b4, off4, rfl, hbw4, hc4⟩ := h4.2 (by omega)
            have c4 := (T.below.cell (p := ⟨b4, off4 + k, none⟩) hbw4).trans (hc4 k hk4)
            clear hc hc1 hc4
            go_wp2_with fail
            go_roundg (n - (k + 1))
            case measure => omega
            case rel => exact ⟨k + 1, _, by omega, rfl, by go_num, fiveC_count (fiveC_next T _ (exit_bd _ n hn)) _ _⟩
          · clear hc hc1
            go_wp2_with fail
            go_roundg (n - (k + 1))
            case measure => omega
            case rel => exact ⟨k + 1, _, by omega, rfl, by go_num, fiveC_next T _ (exit_bd _ n hn)⟩
        · by_cases hk4 : k < len4
          · obtain ⟨b4, off4, rfl, hbw4, hc4⟩ := h4.2 (by omega)
            have c4 := (T.below.cell (p := ⟨b4, off4 + k, none⟩) hbw4).trans (hc4 k hk4)
            clear hc hc4
            go_wp2_with fail
            go_roundg (n - (k + 1))
            case measure => omega
            case rel => exact ⟨k + 1, _, by omega, rfl, by go_num, fiveC_count (fiveC_next T (-1) ⟨by omega, by omega⟩) _ _⟩
          · clear hc
            go_wp2_with fail
            go_roundg (n - (k + 1))
            case measure => omega
            case rel => exact ⟨k + 1, _, by omega, rfl, by go_num, fiveC_next T (-1) ⟨by omega, by omega⟩⟩
      · obtain rfl : n = k := by omega
        clear h0 h1 h4
        go_upto_block 2 with fail
        go_cut [20] from 100 to 112 (fun kv wx => ∃ isF isL ks, kv = .string ks ∧ KindIs isF isL ks ∧ FiveC w wx n n g0 g1 g2 g3 g4 S ex)
        case first =>
          go_wp2_with fail
          · go_meet
            exact ⟨true, false, _, rfl, .inl ⟨rfl, rfl, rfl⟩, T⟩
          · go_meet
            exact ⟨false, true, _, rfl, .inr (.inl ⟨rfl, rfl, rfl⟩), T⟩
          · go_meet
            exact ⟨false, false, _, rfl, .inr (.inr ⟨rfl, rfl, by decide +kernel, by decide +kernel⟩), T⟩
          · go_meet
            exact ⟨false, false, _, rfl, .inr (.inr ⟨rfl, rfl, by decide +kernel, by decide +kernel⟩), T⟩
          · have hno : (other.toList == [102, 117, 108, 108]) = false ∧ (other.toList == [108, 111, 99, 97, 108]) = false := by assumption
            go_meet
            exact ⟨false, false, _, rfl, .inr (.inr ⟨rfl, rfl, hno.1, hno.2⟩), T⟩
        case rest =>
          obtain ⟨isF, isL, ks, rfl, hK, T⟩ := hcut
          have hbd := T.bd
          have t1 := T.lt0
          have t2 := T.lt1
          have t3 := T.lt2
          have t4 := T.lt3
          obtain ⟨F4, hF4, _⟩ := T.r4
          go_wp2_with fail
          refine (optimal_any _ (some ⟨g0, 0, none⟩) n n S g2 ex g4 F4 hn (came_row T.r0.full) (fun _ b off h => by simp at h; omega) T.r2.full (by omega) hF4 (fun v hv _ => (hbd v hv).2) isF isL ks hK).mono ?_
          rintro e w1 ⟨r, rfl, hgot, hr4, hgr⟩
          have U := tailC_of T hr4 hgr
          clear T hr4 hgr hbd t1 t2 t3 t4 hF4
          go_wp2_with fail
          go_loopg [22] n (fun q i wr => ∃ k : Nat, k ≤ n ∧ q = n - k ∧ i = .int .i64 k ∧ TailC w wr n g0 g1 g2 g3 g4 S ex)
          case atStart => exact ⟨0, Nat.zero_le _, by omega, rfl, U⟩
          case round =>
            obtain ⟨k, hk, rfl, rfl, U1⟩ := hrel
            clear U
            by_cases hlt : k < n
            · have q0 := U1.r0.cell hlt
              have q1 := U1.r1.cell hlt
              have q2 := U1.r2.cell hlt
              have q3 := U1.r3.cell hlt
              go_wp2_with fail
              go_quiet (fail)
              go_wp2_with fail
              go_roundg (n - (k + 1))
              case measure => omega
              case rel => exact ⟨k + 1, by omega, rfl, by go_num, U1.drewN _⟩
            · go_wp2_with fail
              go_loopg [23, 24] n (fun q h i wr => ∃ k : Nat, k ≤ n ∧ q = n - k ∧ i = .int .i64 k ∧ h = .int .i64 (hon S k) ∧ TailC w wr n g0 g1 g2 g3 g4 S ex)
              case atStart => exact ⟨0, Nat.zero_le _, by omega, rfl, rfl, U1⟩
              case round =>
                obtain ⟨k3, hk3, rfl, rfl, rfl, U2⟩ := hrel
                clear U1
                have hh := hon_le S k3
                by_cases hlt3 : k3 < n
                · have q1 := U2.r1.cell hlt3
                  cases hs : S k3 with
                  | true =>
                    simp only [hs] at q1
                    have HH : Hid (hon S (k3 + 1) = hon S k3) := show hon S (k3 + 1) = hon S k3 by simp [hon, hs]
                    clear hs
                    go_wp2_with fail
                    go_roundg (n - (k3 + 1))
                    case measure => omega
                    case rel => exact ⟨k3 + 1, by omega, rfl, by go_num, by rw [HH.out], U2⟩
                  | false =>
                    simp only [hs] at q1
                    have HH : Hid (hon S (k3 + 1) = hon S k3 + 1) := show hon S (k3 + 1) = hon S k3 + 1 by simp [hon, hs]
                    clear hs
                    go_wp2_with fail
                    go_roundg (n - (k3 + 1))
                    case measure => omega
                    case rel => exact ⟨k3 + 1, by omega, rfl, by go_num, by rw [HH.out]; go_num, U2⟩
                · obtain rfl : n = k3 := by omega
                  go_wp2_with fail
                  clear hh
                  go_loopg [25, 26, 27, 28] n (fun q s iv l tv wr => ∃ t : Nat, t ≤ n ∧ q = n - t ∧ tv = .int .i64 t ∧ s = .float .f64 (sT isF isL (fun t => cnt S ex t n) t) ∧ iv = .int .i64 (iT isF isL (fun t => cnt S ex t n) t) ∧ l = .float .f64 (lT isF isL (fun t => cnt S ex t n) t) ∧ TailC w wr n g0 g1 g2 g3 g4 S ex)
                  case atStart => exact ⟨0, Nat.zero_le _, by omega, rfl, by simp [sT, sumF, sumL], by simp [iT, intL], by simp [lT, leftL], U2⟩
                  case round =>
                    obtain ⟨t, ht, rfl, rfl, rfl, rfl, rfl, U3⟩ := hrel
                    clear U2
                    by_cases hlt4 : t < n
                    · go_wp2_with fail
                      go_loopg [29, 30] n (fun q cv i wr => ∃ v : Nat, v ≤ n ∧ q = n - v ∧ i = .int .i64 v ∧ cv = .int .i64 (cnt S ex t v) ∧ TailC w wr n g0 g1 g2 g3 g4 S ex)
                      case atStart => exact ⟨0, Nat.zero_le _, by omega, rfl, rfl, U3⟩
                      case round =>
                        obtain ⟨v, hv, rfl, rfl, rfl, U4⟩ := hrel
                        clear U3
                        have hcv := cnt_le S ex t v
                        have hhv := hon_le S v
                        by_cases hlt5 : v < n
                        · have q1 := U4.r1.cell hlt5
                          have q3 := U4.r3.cell hlt5
                          cases hs : S v with
                          | true =>
                            simp only [hs] at q1
                            have HH : Hid (cnt S ex t (v + 1) = cnt S ex t v) := show cnt S ex t (v + 1) = _ by simp [cnt, hs]
                            clear hs
                            go_wp2_with fail
                            go_roundg (n - (v + 1))
                            case measure => omega
                            case rel => exact ⟨v + 1, by omega, rfl, by go_num, by rw [HH.out], U4⟩
                          | false =>
                            simp only [hs] at q1
                            by_cases hx : ex v = (t : Int)
                            · have HH : Hid (cnt S ex t (v + 1) = cnt S ex t v + 1) := show cnt S ex t (v + 1) = _ by simp [cnt, hs, hx]
                              have hb : (ex v == (t : Int)) = true := by simp [hx]
                              clear hs hx
                              go_wp2_with fail
                              go_roundg (n - (v + 1))
                              case measure => omega
                              case rel => exact ⟨v + 1, by omega, rfl, by go_num, by rw [HH.out]; go_num, U4⟩
                            · have HH : Hid (cnt S ex t (v + 1) = cnt S ex t v) := show cnt S ex t (v + 1) = _ by simp [cnt, hx]
                              have hb : (ex v == (t : Int)) = false := by simp [hx]
                              clear hs hx
                              go_wp2_with fail
                              go_roundg (n - (v + 1))
                              case measure => omega
                              case rel => exact ⟨v + 1, by omega, rfl, by go_num, by rw [HH.out], U4⟩
                        · obtain rfl : n = v := by omega
                          have q4 := U4.r4.cell hlt4
                          have hkF := hK.full
                          have hkL := hK.loc
                          have hcb : ∀ t, cnt S ex t n ≤ 4096 := fun t => by have := cnt_le S ex t n; omega
                          have hsF := sT_fine (fun t => cnt S ex t n) hcb isF isL t
                          have hlF := lT_fine (fun t => cnt S ex t n) hcb isF isL t
                          have hiB := iT_le (fun t => cnt S ex t n) hcb isF isL t
                          have hckb := hcb t
                          clear hcb
                          go_upto_region 57 with fail
                          cases isF with
                          | true =>
                            have HE : Hid _ := stF (fun t => cnt S ex t n) isL t
                            have hadd := run_fa (P := Yba.prog) hsF one_fine 46
                            by_cases hp : 0 < cnt S ex t n
                            · go_wp2_with fail
                              go_roundg (n - (t + 1))
                              case measure => omega
                              case rel => exact ⟨t + 1, by omega, rfl, by go_num, by rw [HE.out.2.2.1 hp], by rw [HE.out.1], by rw [HE.out.2.1], U4⟩
                            · go_wp2_with fail
                              go_roundg (n - (t + 1))
                              case measure => omega
                              case rel => exact ⟨t + 1, by omega, rfl, by go_num, by rw [HE.out.2.2.2 hp], by rw [HE.out.1], by rw [HE.out.2.1], U4⟩
                          | false =>
                            cases isL with
                            | false =>
                              have HE : Hid _ := stO (fun t => cnt S ex t n) t
                              go_wp2_with fail
                              go_roundg (n - (t + 1))
                              case measure => omega
                              case rel => exact ⟨t + 1, by omega, rfl, by go_num, by rw [HE.out.2.2], by rw [HE.out.1], by rw [HE.out.2.1], U4⟩
                            | true =>
                              by_cases h1 : cnt S ex t n = 1
                              · have HE : Hid _ := stL1 (fun t => cnt S ex t n) t h1
                                have hadd := run_fa (P := Yba.prog) hsF one_fine 46
                                go_wp2_with fail
                                go_roundg (n - (t + 1))
                                case measure => omega
                                case rel => exact ⟨t + 1, by omega, rfl, by go_num, by rw [HE.out.2.2], by rw [HE.out.1], by rw [HE.out.2.1], U4⟩
                              by_cases h2 : 2 ≤ cnt S ex t n
                              · have HE : Hid _ := stL2 (fun t => cnt S ex t n) t h2
                                generalize cnt S ex t n = c at *
                                have hm0 : 0 ≤ ((c : Int) - 2) * ((c : Int) - 2) := Int.mul_nonneg (by omega) (by omega)
                                have hm1 : ((c : Int) - 2) * ((c : Int) - 2) ≤ 4096 * 4096 := Int.mul_le_mul (by omega) (by omega) (by omega) (by omega)
                                have hfc := ofInt_firm (n := (c : Int)) (by omega) (by omega)
                                have hq1 := run_fq (P := Yba.prog) two_fine hfc 46
                                have ha1 := run_fa (P := Yba.prog) hsF (fq_fine two_fine hfc) 46
                                have hq2 := run_fq (P := Yba.prog) (ofInt_fine hm0) hfc 46
                                have ha2 := run_fa (P := Yba.prog) hlF (fq_fine (ofInt_fine hm0) hfc) 46
                                go_wp2_with fail
                                go_roundg (n - (t + 1))
                                case measure => omega
                                case rel => exact ⟨t + 1, by omega, rfl, by go_num, by rw [HE.out.2.2], by rw [HE.out.1]; exact int_eq (by omega), by rw [HE.out.2.1], U4⟩
                              · have h0 : cnt S ex t n = 0 := by omega
                                have HE : Hid _ := stL0 (fun t => cnt S ex t n) t h0
                                go_wp2_with fail
                                go_roundg (n - (t + 1))
                                case measure => omega
                                case rel => exact ⟨t + 1, by omega, rfl, by go_num, by rw [HE.out.2.2], by rw [HE.out.1], by rw [HE.out.2.1], U4⟩
                    · obtain rfl : n = t := by omega
                      have hkF := hK.full
                      have hkL := hK.loc
                      have hhn : hon S n ≤ 4096 := by have := hon_le S n; omega
                      have hcb : ∀ t, (fun t => cnt S ex t n) t ≤ 4096 := fun t => by have := cnt_le S ex t n; show cnt S ex t n ≤ 4096; omega
                      cases isF with
                      | true =>
                        obtain rfl := hK.not
                        obtain ⟨hXF, hord, hnan⟩ := ord_of hcb hn hhn hgot (show sT true false (fun t => cnt S ex t n) n = _ by simp [sT, tot])
                        by_cases hz : hon S n = 0
                        · have hb : ((hon S n : Int) == 0) = true := by simp [hz]
                          have hnn := hnan hz
                          clear hz hord hnan
                          go_wp2_with go_in
                          go_ret
                          exact ⟨rfl, U3.below⟩
                        · have hb : ((hon S n : Int) == 0) = false := by simp; omega
                          have hoo := hord (by omega)
                          have hqq := run_fq (P := Yba.prog) hXF (ofInt_firm (n := (hon S n : Int)) (by omega) (by omega)) 46
                          clear hz hord hnan
                          go_wp2_with fail
                          go_ret
                          exact ⟨rfl, U3.below⟩
                      | false =>
                        cases isL with
                        | false =>
                          obtain ⟨hXF, hord, hnan⟩ := ord_of hcb hn hhn hgot (show sT false false (fun t => cnt S ex t n) n = _ by simp [sT, tot])
                          by_cases hz : hon S n = 0
                          · have hb : ((hon S n : Int) == 0) = true := by simp [hz]
                            have hnn := hnan hz
                            clear hz hord hnan
                            go_wp2_with go_in
                            go_ret
                            exact ⟨rfl, U3.below⟩
                          · have hb : ((hon S n : Int) == 0) = false := by simp; omega
                            have hoo := hord (by omega)
                            have hqq := run_fq (P := Yba.prog) hXF (ofInt_firm (n := (hon S n : Int)) (by omega) (by omega)) 46
                            clear hz hord hnan
                            go_wp2_with fail
                            go_ret
                            exact ⟨rfl, U3.below⟩
                        | true =>
                          have hiB := iT_le (fun t => cnt S ex t n) hcb false true n
                          by_cases hp : 0 < iT false true (fun t => cnt S ex t n) n
                          · have hlF := lT_fine (fun t => cnt S ex t n) hcb false true n
                            have hsF := sT_fine (fun t => cnt S ex t n) hcb false true n
                            have hfc := ofInt_firm (n := (iT false true (fun t => cnt S ex t n) n : Int)) (by omega) (by omega)
                            have hq1 := run_fq (P := Yba.prog) hlF hfc 46
                            have ha1 := run_fa (P := Yba.prog) hsF (fq_fine hlF hfc) 46
                            obtain ⟨hXF, hord, hnan⟩ := ord_of hcb hn hhn hgot (tot_L1 hp)
                            by_cases hz : hon S n = 0
                            · have hb : ((hon S n : Int) == 0) = true := by simp [hz]
                              have hnn := hnan hz
                              clear hz hord hnan
                              go_wp2_with go_in
                              go_ret
                              exact ⟨rfl, U3.below⟩
                            · have hb : ((hon S n : Int) == 0) = false := by simp; omega
                              have hoo := hord (by omega)
                              have hqq := run_fq (P := Yba.prog) hXF (ofInt_firm (n := (hon S n : Int)) (by omega) (by omega)) 46
                              clear hz hord hnan
                              go_wp2_with fail
                              go_ret
                              exact ⟨rfl, U3.below⟩
                          · obtain ⟨hXF, hord, hnan⟩ := ord_of hcb hn hhn hgot (tot_L0 hp)
                            by_cases hz : hon S n = 0
                            · have hb : ((hon S n : Int) == 0) = true := by simp [hz]
                              have hnn := hnan hz
                              clear hz hord hnan
                              go_wp2_with go_in
                              go_ret
                              exact ⟨rfl, U3.below⟩
                            · have hb : ((hon S n : Int) == 0) = false := by simp; omega
                              have hoo := hord (by omega)
                              have hqq := run_fq (P := Yba.prog) hXF (ofInt_firm (n := (hon S n : Int)) (by omega) (by omega)) 46
                              clear hz hord hnan
                              go_wp2_with fail
                              go_ret
                              exact ⟨rfl, U3.below⟩
end Go.Proofs.Ybulkdpcq
