/-
  'IsIdentifier' (function 7) and the law's own model of it (function 8): both walked against one plain statement.
-/
import Derived.Test.YbulkdpegRows
import Derived.WalkKit
import Derived.WalkSpells
import Derived.WalkLawsBesides
import Derived.Deep.LoopGhost
import Derived.Deep.DeepCutAuto
namespace Go.Proofs.Ybulkdpeg
open Go.RowKit

/-- The byte at place i, as a number; 0 behind the end. -/
def byteAt (s : ByteArray) (i : Nat) : Nat := if h : i < s.size then (s[i]'h).toNat else 0
theorem byteAt_eq (s : ByteArray) (i : Nat) (h : i < s.size) : byteAt s i = (s[i]'h).toNat := dif_pos h
theorem byteAt_lt (s : ByteArray) (i : Nat) : byteAt s i < 256 := by
  unfold byteAt
  split
  · exact UInt8.toNat_lt _
  · decide

def Al (c : Nat) : Prop := (97 ≤ c ∧ c ≤ 122) ∨ (65 ≤ c ∧ c ≤ 90) ∨ (48 ≤ c ∧ c ≤ 57)
def Good (s : ByteArray) (i : Nat) : Prop := Al (byteAt s i) ∨ (byteAt s i = 45 ∧ byteAt s (i - 1) ≠ 45)
def Ident (s : ByteArray) : Prop := 0 < s.size ∧ (97 ≤ byteAt s 0 ∧ byteAt s 0 ≤ 122) ∧ byteAt s (s.size - 1) ≠ 45 ∧ ∀ i, 1 ≤ i → i < s.size → Good s i

/-- What comes back is a bool, true just where P holds. -/
def Says (e : Ending) (P : Prop) : Prop := ∃ b, e = .returned (.bool b) ∧ (b = true ↔ P)
theorem Says.yes {P : Prop} (h : P) : Says (.returned (.bool true)) P := ⟨true, rfl, fun _ => h, fun _ => rfl⟩
theorem Says.no {P : Prop} (h : ¬ P) : Says (.returned (.bool false)) P := ⟨false, rfl, fun e => (by cases e), fun q => absurd q h⟩

theorem empty_of (s : ByteArray) (h : s.size = 0) : s.toList.isEmpty = true := by
  rw [ByteArray.toList_eq]
  have e : s.data.toList.length = 0 := by simpa using h
  rw [List.length_eq_zero_iff.1 e]
  rfl
theorem not_empty_of (s : ByteArray) (h : 0 < s.size) : s.toList.isEmpty = false := by
  rw [ByteArray.toList_eq]
  cases e : s.data.toList with
  | nil =>
    have e2 : s.data.toList.length = s.size := by simp
    rw [e] at e2
    simp at e2
    omega
  | cons x l => rfl

theorem good_next {s : ByteArray} {k : Nat} (h : Hid (∀ i, 1 ≤ i → i < k → Good s i)) (hk : Good s k) : Hid (∀ i, 1 ≤ i → i < k + 1 → Good s i) := fun i h1 h2 => by
  by_cases e : i = k
  · rw [e]; exact hk
  · exact h.out i h1 (by omega)

set_option maxHeartbeats 1000000 in
set_option maxRecDepth 100000 in
theorem ident_any (s : ByteArray) (w : World) (hs : s.size ≤ 2097152) :
    Calls Yba.prog 7 #[.string s] w fun e w' => Says e (Ident s) ∧ w' = w := by
  by_cases hp : 0 < s.size
  · have e0 := not_empty_of s hp
    have h1 : (0 : Int) < (s.size : Int) := by omega
    by_cases hf : 97 ≤ byteAt s 0 ∧ byteAt s 0 ≤ 122
    · have g1 : (97 : Int) ≤ ((s[0]'hp).toNat : Int) := by have := hf.1; rw [byteAt_eq s 0 hp] at this; omega
      have g2 : ((s[0]'hp).toNat : Int) ≤ 122 := by have := hf.2; rw [byteAt_eq s 0 hp] at this; omega
      by_cases hl : byteAt s (s.size - 1) = 45
      · have g3 : (((s[s.size - 1]'(by omega)).toNat : Int) == 45) = true := by
          rw [byteAt_eq s (s.size - 1) (by omega)] at hl
          simp; omega
        have HN : Hid (¬ Ident s) := fun h => h.2.2.1 hl
        clear hf hl
        go_enter Yba.func7, Yba.ntmps7
        go_wp2_with fail
        go_ret
        exact ⟨.no HN.out, rfl⟩
      · have g3 : (((s[s.size - 1]'(by omega)).toNat : Int) == 45) = false := by
          rw [byteAt_eq s (s.size - 1) (by omega)] at hl
          simp; omega
        have HI : Hid ((∀ i, 1 ≤ i → i < s.size → Good s i) → Ident s) := fun h => ⟨hp, hf, hl, h⟩
        clear hf hl
        go_enter Yba.func7, Yba.ntmps7
        go_wp2_with fail
        go_loopg [3] (s.size - 1) (fun q i wr => ∃ k : Nat, 1 ≤ k ∧ k ≤ s.size ∧ q = s.size - k ∧ i = .int .i64 k ∧ wr = w ∧ Hid (∀ i, 1 ≤ i → i < k → Good s i))
        case atStart => exact ⟨1, Nat.le_refl _, by omega, rfl, rfl, rfl, fun i h1 h2 => absurd h1 (by omega)⟩
        case round =>
          obtain ⟨k, hk1, hk, rfl, rfl, rfl, HG⟩ := hrel
          by_cases hlt : k < s.size
          · have HX : Hid (Good s k ↔ ((97 ≤ ((s[k]'hlt).toNat : Int) ∧ ((s[k]'hlt).toNat : Int) ≤ 122) ∨ (65 ≤ ((s[k]'hlt).toNat : Int) ∧ ((s[k]'hlt).toNat : Int) ≤ 90) ∨ (48 ≤ ((s[k]'hlt).toNat : Int) ∧ ((s[k]'hlt).toNat : Int) ≤ 57)) ∨ (((s[k]'hlt).toNat : Int) = 45 ∧ ¬ byteAt s (k - 1) = 45)) := by
              show _ ↔ _
              unfold Good Al
              rw [byteAt_eq s k hlt]
              omega
            by_cases hq : byteAt s (k - 1) = 45
            · have g4 : (((s[k - 1]'(by omega)).toNat : Int) != 45) = false := by
                rw [byteAt_eq s (k - 1) (by omega)] at hq
                simp [hq]
              have HQ : Hid (byteAt s (k - 1) = 45) := hq
              clear hq
              go_wp2_with fail
              all_goals first
                | (go_roundg (s.size - (k + 1)); (case measure => omega); (case rel => exact ⟨k + 1, by omega, by omega, rfl, by go_num, rfl, good_next HG (HX.out.2 (.inl (by omega)))⟩))
                | (go_ret; exact ⟨.no (fun h => by have h1 := HX.out.1 (h.2.2.2 k hk1 hlt); have h2 := HQ.out; omega), rfl⟩)
            · have g4 : (((s[k - 1]'(by omega)).toNat : Int) != 45) = true := by
                rw [byteAt_eq s (k - 1) (by omega)] at hq
                simp; omega
              have HQ : Hid (¬ byteAt s (k - 1) = 45) := hq
              clear hq
              go_wp2_with fail
              all_goals first
                | (go_roundg (s.size - (k + 1)); (case measure => omega); (case rel => exact ⟨k + 1, by omega, by omega, rfl, by go_num, rfl, good_next HG (HX.out.2 (by have h2 := HQ.out; omega))⟩))
                | (go_ret; exact ⟨.no (fun h => by have h1 := HX.out.1 (h.2.2.2 k hk1 hlt); omega), rfl⟩)
          · go_wp2_with fail
            go_ret
            exact ⟨.yes (HI.out fun i h1 h2 => HG.out i h1 (by omega)), rfl⟩
    · have HN : Hid (¬ Ident s) := fun h => hf h.2.1
      by_cases g1 : (97 : Int) ≤ ((s[0]'hp).toNat : Int)
      · have g2 : (122 : Int) < ((s[0]'hp).toNat : Int) := by rw [byteAt_eq s 0 hp] at hf; omega
        clear hf
        go_enter Yba.func7, Yba.ntmps7
        go_wp2_with fail
        go_ret
        exact ⟨.no HN.out, rfl⟩
      · have g2 : ((s[0]'hp).toNat : Int) < 97 := by omega
        clear hf g1
        go_enter Yba.func7, Yba.ntmps7
        go_wp2_with fail
        go_ret
        exact ⟨.no HN.out, rfl⟩
  · have e0 := empty_of s (by omega)
    have HN : Hid (¬ Ident s) := fun h => hp h.1
    go_enter Yba.func7, Yba.ntmps7
    go_wp2_with fail
    go_ret
    exact ⟨.no HN.out, rfl⟩
end Go.Proofs.Ybulkdpeg
