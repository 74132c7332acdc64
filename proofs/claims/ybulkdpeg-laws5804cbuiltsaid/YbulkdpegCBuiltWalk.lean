/-
  'LawS5804CBuilt' (function 6): the walk.
-/
import Derived.Test.YbulkdpegTrim
import Derived.Test.YbulkdpegBytes
import Derived.Room.AppendFits
namespace Go.Proofs.Ybulkdpeg
open Go.RowKit

theorem tbl_blank : ∀ i : Nat, (h : i < 6) → blankB ((#[32, 9, 10, 11, 12, 13] : Array UInt8)[i]'h).toNat = true := by decide +kernel

theorem byteAt_list (s : ByteArray) (i : Nat) : byteAt s i = ((s.data.toList[i]?).map (·.toNat)).getD 0 := by
  unfold byteAt
  by_cases h : i < s.size
  · rw [dif_pos h]
    have h2 : i < s.data.toList.length := by simpa using h
    rw [List.getElem?_eq_getElem h2]
    rfl
  · rw [dif_neg h]
    have h2 : s.data.toList.length ≤ i := by simpa using h
    rw [List.getElem?_eq_none h2]
    rfl

/-- Blanks, then a text that begins with none: what trimBlanks leaves is the text. -/
theorem trim_law {s t : ByteArray} {bl : List UInt8} {k : Nat} (hs : s.data.toList = bl ++ t.data.toList) (hbl : ∀ b ∈ bl, blankB b.toNat = true) (ht : 0 < t.size) (hnb : blankB (byteAt t 0) = false) (hc : Cut s k) :
    ((s.extract k s.size).toList == t.toList) = true := by
  have hsz : s.size = bl.length + t.size := by
    have := congrArg List.length hs
    simpa using this
  have hin : ∀ i, i < bl.length → blankB (byteAt s i) = true := fun i hi => by
    rw [byteAt_list, hs, List.getElem?_append_left hi, List.getElem?_eq_getElem hi]
    exact hbl _ (List.getElem_mem _)
  have hat : byteAt s bl.length = byteAt t 0 := by
    rw [byteAt_list, byteAt_list, hs, List.getElem?_append_right (Nat.le_refl _), Nat.sub_self]
  have hk : k = bl.length := by
    rcases Nat.lt_trichotomy k bl.length with h | h | h
    · have h1 := hc.2.2 (by omega)
      rw [hin k h] at h1
      cases h1
    · exact h
    · have h1 := hc.2.1 bl.length h
      rw [hat, hnb] at h1
      cases h1
  have e : (s.extract k s.size).toList = t.toList := by
    rw [ByteArray.toList_eq, ByteArray.toList_eq]
    have e2 : (s.extract k s.size).data.toList = (s.data.toList).drop k := by
      simp only [ByteArray.data_extract, Array.toList_extract, List.extract_eq_take_drop]
      exact List.take_of_length_le (by simp)
    rw [e2, hs, hk, List.drop_left]
  rw [e]
  simp

theorem x_facts (body : ByteArray) : ((⟨#[120]⟩ : ByteArray) ++ body).size = body.size + 1 ∧ blankB (byteAt ((⟨#[120]⟩ : ByteArray) ++ body) 0) = false := by
  have h1 : ((⟨#[120]⟩ : ByteArray) ++ body).data.toList = 120 :: body.data.toList := by simp
  refine ⟨?_, ?_⟩
  · have e1 : (⟨#[120]⟩ : ByteArray).size = 1 := rfl
    rw [ByteArray.size_append, e1]
    omega
  · rw [byteAt_list, h1]
    rfl

theorem back_ints (t : ByteArray) : (t.data.toList.map (fun b => (b.toNat : Int))).map (fun n => UInt8.ofNat n.toNat) = t.data.toList := by
  rw [List.map_map]
  have : (fun n : Int => UInt8.ofNat n.toNat) ∘ (fun b : UInt8 => (b.toNat : Int)) = id := by
    funext b
    simp
  rw [this, List.map_id]

theorem blank_list {ns : List Int} (h : ∀ x ∈ ns, ∃ c : Nat, x = (c : Int) ∧ blankB c = true) : ∀ b ∈ ns.map (fun n => UInt8.ofNat n.toNat), blankB b.toNat = true := by
  intro b hb
  obtain ⟨x, hx, rfl⟩ := List.mem_map.1 hb
  obtain ⟨c, rfl, hc⟩ := h x hx
  have h2 : c < 256 := by
    have := of_decide_eq_true hc
    omega
  have e : (UInt8.ofNat ((c : Int).toNat)).toNat = c := by
    rw [Int.toNat_natCast]
    exact UInt8.toNat_ofNat_of_lt' h2
  rw [e]
  exact hc

theorem str_ints (t : ByteArray) : Lib.strCells t = (t.data.toList.map (fun b => (b.toNat : Int))).map (Value.int .u8) := by
  simp [Lib.strCells]

set_option maxHeartbeats 1000000 in
set_option maxRecDepth 100000 in
theorem cbuilt_any (a : Option Addr) (len cap : Nat) (z : Nat → Int) (body : ByteArray) (w : World) (hl : len ≤ 65536) (hbs : body.size ≤ 1048576)
    (ha : 0 < len → ∃ b off, a = some ⟨b, off, none⟩ ∧ b < w.heap.size ∧ ∀ i, i < len → w.cell? ⟨b, off + i, none⟩ = some (.int .u8 (z i)) ∧ 0 ≤ z i ∧ z i ≤ 255) :
    Calls Yba.prog 6 #[.slice a len cap, .string body] w fun e w' => e = .returned (.bool true) ∧ Below w.heap.size w w' := by
  obtain ⟨i0, hi, hz0, hz1, hz2⟩ := info_parts Yba.info5
  go_enter Yba.func6, Yba.ntmps6
  go_wp2_with (at_make; refine wpList_make_own _ rfl _ _ 23 rfl w.heap.size 5 i0 (.int .u8 0) 1 Yba.underlying23 hi hz0 hz1 .i64 .i64 ((len : Int) + body.size + 1) (len + body.size + 1) rfl rfl (by omega) (by rw [hz2]; omega) (by unfold maxLen; omega) (Nat.le_refl _) ?_; intro w1 hown hgrow)
  have hB1 : Below w.heap.size w w1 := (Below.refl _ _).grown hgrow (Nat.le_refl _) (fun k hk => by cases hk)
  go_loopg [5, 6] len (fun q v i wr => ∃ (k : Nat) (ns : List Int), k ≤ len ∧ q = len - k ∧ i = .int .i64 k ∧ v = .slice (some ⟨w.heap.size, 0, none⟩) k (len + body.size + 1) ∧ wr.ownsRow w.heap.size 5 1 (.slice (some ⟨w.heap.size, 0, none⟩) k (len + body.size + 1)) k (ns.map (Value.int .u8)) ∧ Below w.heap.size w wr ∧ Hid (∀ x ∈ ns, ∃ c : Nat, x = (c : Int) ∧ blankB c = true))
  case atStart => exact ⟨0, [], Nat.zero_le _, by omega, rfl, rfl, hown, hB1, fun x hx => by cases hx⟩
  case round =>
    obtain ⟨k, ns, hk, rfl, rfl, rfl, hO, hB, HN⟩ := hrel
    clear hown hgrow hB1
    by_cases hlt : k < len
    · obtain ⟨b, off, rfl, hbw, hc⟩ := ha (by omega)
      have c1 := (hB.cell (p := ⟨b, off + k, none⟩) hbw).trans (hc k hlt).1
      have z0 := (hc k hlt).2.1
      have z1 := (hc k hlt).2.2
      have q0 : 0 ≤ z k % 6 := by omega
      have q1 : z k % 6 < 6 := by omega
      clear hc
      go_wp2_with (at_builtin; refine wpList_append_fits _ rfl _ _ 23 rfl w.heap.size 5 i0 1 Yba.underlying23 hi hz1 w.heap.size k (len + body.size + 1) (ns.map (Value.int .u8)) rfl (hO.alloc _) ⟨wr.heap.size, 0, none⟩ 1 1 [_] rfl rfl (cell_one_new _ _ _) (by intro u hu; simp at hu; subst hu; rfl) (by omega) ?_; intro w2 hown2 hgrow2)
      go_roundg (len - (k + 1))
      case measure => omega
      case rel => exact ⟨k + 1, ns ++ [_], by omega, rfl, by go_num, rfl, by rw [List.map_append]; exact hown2, (hB.alloc hB.size _).grown hgrow2 (by have := hB.size; simp; omega) (fun k hk => by simp at hk; omega), fun x hx => by
          rcases List.mem_append.1 hx with h | h
          · exact HN.out x h
          · obtain rfl := List.mem_singleton.1 h
            exact ⟨_, rfl, tbl_blank _ (by omega)⟩⟩
    · obtain rfl : k = len := by omega
      by_cases hp : 0 < body.size
      · have h256 := UInt8.toNat_lt (body[0]'hp)
        have hb0 : ((body.size : Int) == 0) = false := beq_eq_false_iff_ne.2 (by omega)
        have hb1 : (0 : Int) < (body.size : Int) := by omega
        cases hbl : blankB (body[0]'hp).toNat with
        | true =>
          have x1 := (x_facts body).1
          have X2 : Hid (blankB (byteAt ((⟨#[120]⟩ : ByteArray) ++ body) 0) = false) := (x_facts body).2
          go_upto_region 11 with (go_at_call 10; refine (blank_any _ _ h256).mono ?_; rintro e w3 ⟨rfl, rfl⟩)
          generalize (⟨#[120]⟩ : ByteArray) ++ body = t at x1 X2 ⊢
          have x2 : t.size ≤ body.size + 1 := by omega
          have x3 : 0 < t.size := by omega
          clear x1
          go_wp2_with (first | (go_at_call 10; refine (blank_any _ _ h256).mono ?_; rintro e w3 ⟨rfl, rfl⟩) | (at_builtin; refine Lib.wpList_append_fits_string _ rfl _ _ 23 9 rfl w.heap.size 5 i0 Yba.underlying23 Yba.underlying9 hi hz1 (some ⟨w.heap.size, 0, none⟩) k (k + body.size + 1) (ns.map (Value.int .u8)) rfl hO t rfl (by omega) (by omega) ?_; intro w2 hO2 hg2; rw [str_ints, ← List.map_append] at hO2; obtain ⟨s, hsl, hsz, hcv⟩ := string_of hO2; have hsz2 : s.size ≤ 2097152 := (by omega); clear hsz) | (go_at_call 9; refine (trim_any s _ hsz2).mono ?_; rintro e w4 ⟨⟨kc, hcut, rfl⟩, rfl⟩; have hcmp := trim_law (t := t) (bl := ns.map (fun n => UInt8.ofNat n.toNat)) (by rw [hsl, List.map_append]; congr 1; exact back_ints t) (blank_list HN.out) x3 X2.out hcut))
          go_ret
          exact ⟨rfl, hB.grown hg2 hB.size (fun k hk => by simp [Value.ownBlock] at hk; omega)⟩
        | false =>
          have X2 : Hid (blankB (byteAt body 0) = false) := show blankB (byteAt body 0) = false by rw [byteAt_eq body 0 hp]; exact hbl
          go_wp2_with (first | (go_at_call 10; refine (blank_any _ _ h256).mono ?_; rintro e w3 ⟨rfl, rfl⟩) | (at_builtin; refine Lib.wpList_append_fits_string _ rfl _ _ 23 9 rfl w.heap.size 5 i0 Yba.underlying23 Yba.underlying9 hi hz1 (some ⟨w.heap.size, 0, none⟩) k (k + body.size + 1) (ns.map (Value.int .u8)) rfl hO body rfl (by omega) (by omega) ?_; intro w2 hO2 hg2; rw [str_ints, ← List.map_append] at hO2; obtain ⟨s, hsl, hsz, hcv⟩ := string_of hO2; have hsz2 : s.size ≤ 2097152 := (by omega); clear hsz) | (go_at_call 9; refine (trim_any s _ hsz2).mono ?_; rintro e w4 ⟨⟨kc, hcut, rfl⟩, rfl⟩; have hcmp := trim_law (t := body) (bl := ns.map (fun n => UInt8.ofNat n.toNat)) (by rw [hsl, List.map_append]; congr 1; exact back_ints body) (blank_list HN.out) hp X2.out hcut))
          go_ret
          exact ⟨rfl, hB.grown hg2 hB.size (fun k hk => by simp [Value.ownBlock] at hk; omega)⟩
      · have hb0 : ((body.size : Int) == 0) = true := beq_iff_eq.2 (by omega)
        have h256 : 0 < 256 := by omega
        have x1 := (x_facts body).1
        have X2 : Hid (blankB (byteAt ((⟨#[120]⟩ : ByteArray) ++ body) 0) = false) := (x_facts body).2
        go_upto_region 11 with fail
        generalize (⟨#[120]⟩ : ByteArray) ++ body = t at x1 X2 ⊢
        have x2 : t.size ≤ body.size + 1 := by omega
        have x3 : 0 < t.size := by omega
        clear x1
        go_wp2_with (first | (go_at_call 10; refine (blank_any _ _ h256).mono ?_; rintro e w3 ⟨rfl, rfl⟩) | (at_builtin; refine Lib.wpList_append_fits_string _ rfl _ _ 23 9 rfl w.heap.size 5 i0 Yba.underlying23 Yba.underlying9 hi hz1 (some ⟨w.heap.size, 0, none⟩) k (k + body.size + 1) (ns.map (Value.int .u8)) rfl hO t rfl (by omega) (by omega) ?_; intro w2 hO2 hg2; rw [str_ints, ← List.map_append] at hO2; obtain ⟨s, hsl, hsz, hcv⟩ := string_of hO2; have hsz2 : s.size ≤ 2097152 := (by omega); clear hsz) | (go_at_call 9; refine (trim_any s _ hsz2).mono ?_; rintro e w4 ⟨⟨kc, hcut, rfl⟩, rfl⟩; have hcmp := trim_law (t := t) (bl := ns.map (fun n => UInt8.ofNat n.toNat)) (by rw [hsl, List.map_append]; congr 1; exact back_ints t) (blank_list HN.out) x3 X2.out hcut))
        go_ret
        exact ⟨rfl, hB.grown hg2 hB.size (fun k hk => by simp [Value.ownBlock] at hk; omega)⟩
end Go.Proofs.Ybulkdpeg
