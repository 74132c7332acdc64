/-
  The law's own model of an identifier (function 8), walked against the same plain statement.
-/
import Derived.Test.YbulkdpegIdent
namespace Go.Proofs.Ybulkdpeg
open Go.RowKit

def MGood (s : ByteArray) (i : Nat) : Prop := (Al (byteAt s i) ∨ byteAt s i = 45) ∧ ¬ (byteAt s i = 45 ∧ i + 1 < s.size ∧ byteAt s (i + 1) = 45)

theorem mgood_iff (s : ByteArray) (hf : 97 ≤ byteAt s 0 ∧ byteAt s 0 ≤ 122) : (∀ i, i < s.size → MGood s i) ↔ (∀ i, 1 ≤ i → i < s.size → Good s i) := by
  constructor
  · intro h i h1 h2
    obtain ⟨ha, hb⟩ := h i h2
    obtain ⟨_, hd⟩ := h (i - 1) (by omega)
    rcases ha with ha | ha
    · exact .inl ha
    · refine .inr ⟨ha, fun e => hd ⟨e, by omega, ?_⟩⟩
      rw [show i - 1 + 1 = i by omega]
      exact ha
  · intro h i h2
    by_cases h0 : i = 0
    · subst h0
      exact ⟨.inl (.inl hf), fun e => by omega⟩
    · refine ⟨?_, fun ⟨e1, e2, e3⟩ => ?_⟩
      · rcases h i (by omega) h2 with g | g
        · exact .inl g
        · exact .inr g.1
      · rcases h (i + 1) (by omega) e2 with g | g
        · unfold Al at g
          omega
        · exact g.2 (by simpa using e1)

theorem mgood_next {s : ByteArray} {k : Nat} (h : Hid (∀ i, i < k → MGood s i)) (hk : MGood s k) : Hid (∀ i, i < k + 1 → MGood s i) := fun i h2 => by
  by_cases e : i = k
  · rw [e]; exact hk
  · exact h.out i (by omega)

theorem or32 : ∀ c : Nat, c < 256 → ((97 ≤ bits BinOp.or IntKind.u8 (c : Int) 32 ∧ bits BinOp.or IntKind.u8 (c : Int) 32 ≤ 122) ↔ ((97 ≤ c ∧ c ≤ 122) ∨ (65 ≤ c ∧ c ≤ 90))) := by decide +kernel

set_option maxHeartbeats 2000000 in
set_option maxRecDepth 100000 in
theorem model_any (s : ByteArray) (w : World) (hs : s.size ≤ 2097152) :
    Calls Yba.prog 8 #[.string s] w fun e w' => Says e (Ident s) ∧ w' = w := by
  by_cases hp : 0 < s.size
  · have e0 : ((s.size : Int) == 0) = false := beq_eq_false_iff_ne.2 (by omega)
    have h1 : (0 : Int) < (s.size : Int) := by omega
    by_cases hf : 97 ≤ byteAt s 0 ∧ byteAt s 0 ≤ 122
    · have g1 : (97 : Int) ≤ ((s[0]'hp).toNat : Int) := by have := hf.1; rw [byteAt_eq s 0 hp] at this; omega
      have g2 : ((s[0]'hp).toNat : Int) ≤ 122 := by have := hf.2; rw [byteAt_eq s 0 hp] at this; omega
      by_cases hl : byteAt s (s.size - 1) = 45
      · have g3 : (((s[s.size - 1]'(by omega)).toNat : Int) == 45) = true := by
          rw [byteAt_eq s (s.size - 1) (by omega)] at hl
          simp; omega
        have HN : Hid (¬ Ident s) := fun h => h.2.2.1 hl
        clear hf hl
        go_enter Yba.func8, Yba.ntmps8
        go_wp2_with fail
        go_ret
        exact ⟨.no HN.out, rfl⟩
      · have g3 : (((s[s.size - 1]'(by omega)).toNat : Int) == 45) = false := by
          rw [byteAt_eq s (s.size - 1) (by omega)] at hl
          simp; omega
        have HI : Hid ((∀ i, i < s.size → MGood s i) ↔ Ident s) := ⟨fun h => ⟨hp, hf, hl, (mgood_iff s hf).1 h⟩, fun h => (mgood_iff s hf).2 h.2.2.2⟩
        clear hf hl
        go_enter Yba.func8, Yba.ntmps8
        go_wp2_with fail
        go_loopg [4] s.size (fun q i wr => ∃ k : Nat, k ≤ s.size ∧ q = s.size - k ∧ i = .int .i64 k ∧ wr = w ∧ Hid (∀ i, i < k → MGood s i))
        case atStart => exact ⟨0, Nat.zero_le _, rfl, rfl, rfl, fun i h2 => absurd h2 (by omega)⟩
        case round =>
          obtain ⟨k, hk, rfl, rfl, rfl, HG⟩ := hrel
          by_cases hlt : k < s.size
          · have hc256 := UInt8.toNat_lt (s[k]'hlt)
            have HX : Hid (MGood s k ↔ (((97 ≤ ((s[k]'hlt).toNat : Int) ∧ ((s[k]'hlt).toNat : Int) ≤ 122) ∨ (65 ≤ ((s[k]'hlt).toNat : Int) ∧ ((s[k]'hlt).toNat : Int) ≤ 90) ∨ (48 ≤ ((s[k]'hlt).toNat : Int) ∧ ((s[k]'hlt).toNat : Int) ≤ 57)) ∨ ((s[k]'hlt).toNat : Int) = 45) ∧
                ¬ (((s[k]'hlt).toNat : Int) = 45 ∧ k + 1 < s.size ∧ byteAt s (k + 1) = 45)) := by
              show _ ↔ _
              unfold MGood Al
              rw [byteAt_eq s k hlt]
              omega
            have HO := or32 (s[k]'hlt).toNat hc256
            by_cases c1 : (97 ≤ (s[k]'hlt).toNat ∧ (s[k]'hlt).toNat ≤ 122) ∨ (65 ≤ (s[k]'hlt).toNat ∧ (s[k]'hlt).toNat ≤ 90)
            · have a1 := (HO.2 c1).1
              have a2 := (HO.2 c1).2
              have hb : (((s[k]'hlt).toNat : Int) == 45) = false := beq_eq_false_iff_ne.2 (by omega)
              have HC : Hid ((97 ≤ (s[k]'hlt).toNat ∧ (s[k]'hlt).toNat ≤ 122) ∨ (65 ≤ (s[k]'hlt).toNat ∧ (s[k]'hlt).toNat ≤ 90)) := c1
              clear c1 HO
              go_wp2_with fail
              all_goals first
                | (go_roundg (s.size - (k + 1)); (case measure => omega); (case rel => exact ⟨k + 1, by omega, rfl, by go_num, rfl, mgood_next HG (HX.out.2 (by have h2 := HC.out; omega))⟩))
                | (go_ret; exact ⟨.no (fun h => by have h1 := HX.out.1 (HI.out.2 h k hlt); have h2 := HC.out; omega), rfl⟩)
            have HO2 : ¬ (97 ≤ bits BinOp.or IntKind.u8 ((s[k]'hlt).toNat : Int) 32 ∧ bits BinOp.or IntKind.u8 ((s[k]'hlt).toNat : Int) 32 ≤ 122) := fun h => c1 (HO.1 h)
            by_cases c2 : 48 ≤ (s[k]'hlt).toNat ∧ (s[k]'hlt).toNat ≤ 57
            · have b1 : (48 : Int) ≤ ((s[k]'hlt).toNat : Int) := by omega
              have b2 : ((s[k]'hlt).toNat : Int) ≤ 57 := by omega
              have hb : (((s[k]'hlt).toNat : Int) == 45) = false := beq_eq_false_iff_ne.2 (by omega)
              clear HO c1 c2
              by_cases a1 : 97 ≤ bits BinOp.or IntKind.u8 ((s[k]'hlt).toNat : Int) 32
              · have a2 : 122 < bits BinOp.or IntKind.u8 ((s[k]'hlt).toNat : Int) 32 := by omega
                clear HO2
                go_wp2_with fail
                all_goals first
                  | (go_roundg (s.size - (k + 1)); (case measure => omega); (case rel => exact ⟨k + 1, by omega, rfl, by go_num, rfl, mgood_next HG (HX.out.2 (by omega))⟩))
                  | (go_ret; exact ⟨.no (fun h => by have h1 := HX.out.1 (HI.out.2 h k hlt); omega), rfl⟩)
              · clear HO2
                go_wp2_with fail
                all_goals first
                  | (go_roundg (s.size - (k + 1)); (case measure => omega); (case rel => exact ⟨k + 1, by omega, rfl, by go_num, rfl, mgood_next HG (HX.out.2 (by omega))⟩))
                  | (go_ret; exact ⟨.no (fun h => by have h1 := HX.out.1 (HI.out.2 h k hlt); omega), rfl⟩)
            by_cases c3 : (s[k]'hlt).toNat = 45
            · have hb : (((s[k]'hlt).toNat : Int) == 45) = true := beq_iff_eq.2 (by omega)
              have b1 : ((s[k]'hlt).toNat : Int) < 48 := by omega
              have HC : Hid ((s[k]'hlt).toNat = 45) := c3
              clear HO c1 c2 c3
              by_cases hn : k + 1 < s.size
              · by_cases hq : byteAt s (k + 1) = 45
                · have g4 : (((s[k + 1]'hn).toNat : Int) == 45) = true := by
                    rw [byteAt_eq s (k + 1) hn] at hq
                    exact beq_iff_eq.2 (by omega)
                  have HQ : Hid (byteAt s (k + 1) = 45) := hq
                  clear hq
                  by_cases a1 : 97 ≤ bits BinOp.or IntKind.u8 ((s[k]'hlt).toNat : Int) 32
                  · have a2 : 122 < bits BinOp.or IntKind.u8 ((s[k]'hlt).toNat : Int) 32 := by omega
                    clear HO2
                    go_wp2_with fail
                    all_goals first
                      | (go_roundg (s.size - (k + 1)); (case measure => omega); (case rel => exact ⟨k + 1, by omega, rfl, by go_num, rfl, mgood_next HG (HX.out.2 (by have h2 := HC.out; have h3 := HQ.out; omega))⟩))
                      | (go_ret; exact ⟨.no (fun h => by have h1 := HX.out.1 (HI.out.2 h k hlt); have h2 := HC.out; have h3 := HQ.out; omega), rfl⟩)
                  · clear HO2
                    go_wp2_with fail
                    all_goals first
                      | (go_roundg (s.size - (k + 1)); (case measure => omega); (case rel => exact ⟨k + 1, by omega, rfl, by go_num, rfl, mgood_next HG (HX.out.2 (by have h2 := HC.out; have h3 := HQ.out; omega))⟩))
                      | (go_ret; exact ⟨.no (fun h => by have h1 := HX.out.1 (HI.out.2 h k hlt); have h2 := HC.out; have h3 := HQ.out; omega), rfl⟩)
                · have g4 : (((s[k + 1]'hn).toNat : Int) == 45) = false := by
                    rw [byteAt_eq s (k + 1) hn] at hq
                    exact beq_eq_false_iff_ne.2 (by omega)
                  have HQ : Hid (¬ byteAt s (k + 1) = 45) := hq
                  clear hq
                  by_cases a1 : 97 ≤ bits BinOp.or IntKind.u8 ((s[k]'hlt).toNat : Int) 32
                  · have a2 : 122 < bits BinOp.or IntKind.u8 ((s[k]'hlt).toNat : Int) 32 := by omega
                    clear HO2
                    go_wp2_with fail
                    all_goals first
                      | (go_roundg (s.size - (k + 1)); (case measure => omega); (case rel => exact ⟨k + 1, by omega, rfl, by go_num, rfl, mgood_next HG (HX.out.2 (by have h2 := HC.out; have h3 := HQ.out; omega))⟩))
                      | (go_ret; exact ⟨.no (fun h => by have h1 := HX.out.1 (HI.out.2 h k hlt); have h2 := HC.out; have h3 := HQ.out; omega), rfl⟩)
                  · clear HO2
                    go_wp2_with fail
                    all_goals first
                      | (go_roundg (s.size - (k + 1)); (case measure => omega); (case rel => exact ⟨k + 1, by omega, rfl, by go_num, rfl, mgood_next HG (HX.out.2 (by have h2 := HC.out; have h3 := HQ.out; omega))⟩))
                      | (go_ret; exact ⟨.no (fun h => by have h1 := HX.out.1 (HI.out.2 h k hlt); have h2 := HC.out; have h3 := HQ.out; omega), rfl⟩)
              · by_cases a1 : 97 ≤ bits BinOp.or IntKind.u8 ((s[k]'hlt).toNat : Int) 32
                · have a2 : 122 < bits BinOp.or IntKind.u8 ((s[k]'hlt).toNat : Int) 32 := by omega
                  clear HO2
                  go_wp2_with fail
                  all_goals first
                    | (go_roundg (s.size - (k + 1)); (case measure => omega); (case rel => exact ⟨k + 1, by omega, rfl, by go_num, rfl, mgood_next HG (HX.out.2 (by have h2 := HC.out; omega))⟩))
                    | (go_ret; exact ⟨.no (fun h => by have h1 := HX.out.1 (HI.out.2 h k hlt); have h2 := HC.out; omega), rfl⟩)
                · clear HO2
                  go_wp2_with fail
                  all_goals first
                    | (go_roundg (s.size - (k + 1)); (case measure => omega); (case rel => exact ⟨k + 1, by omega, rfl, by go_num, rfl, mgood_next HG (HX.out.2 (by have h2 := HC.out; omega))⟩))
                    | (go_ret; exact ⟨.no (fun h => by have h1 := HX.out.1 (HI.out.2 h k hlt); have h2 := HC.out; omega), rfl⟩)
            · have hb : (((s[k]'hlt).toNat : Int) == 45) = false := beq_eq_false_iff_ne.2 (by omega)
              have HC : Hid (¬ (((97 ≤ (s[k]'hlt).toNat ∧ (s[k]'hlt).toNat ≤ 122) ∨ (65 ≤ (s[k]'hlt).toNat ∧ (s[k]'hlt).toNat ≤ 90)) ∨ (48 ≤ (s[k]'hlt).toNat ∧ (s[k]'hlt).toNat ≤ 57))) := fun h => h.elim c1 c2
              have hor : ((s[k]'hlt).toNat : Int) < 48 ∨ (57 : Int) < ((s[k]'hlt).toNat : Int) := by omega
              have hbits : bits BinOp.or IntKind.u8 ((s[k]'hlt).toNat : Int) 32 < 97 ∨ 122 < bits BinOp.or IntKind.u8 ((s[k]'hlt).toNat : Int) 32 := by omega
              clear HO HO2 c1 c2 c3
              rcases hor with b1 | b1
              · rcases hbits with a1 | a1
                · skip
                  go_wp2_with fail
                  all_goals first
                    | (go_roundg (s.size - (k + 1)); (case measure => omega); (case rel => exact ⟨k + 1, by omega, rfl, by go_num, rfl, mgood_next HG (HX.out.2 (by have h2 := HC.out; omega))⟩))
                    | (go_ret; exact ⟨.no (fun h => by have h1 := HX.out.1 (HI.out.2 h k hlt); have h2 := HC.out; have h3 := beq_eq_false_iff_ne.1 hb; omega), rfl⟩)
                · have hd1 : decide (bits BinOp.or IntKind.u8 ((s[k]'hlt).toNat : Int) 32 ≤ 122) = false := decide_eq_false (by omega)
                  go_wp2_with fail
                  all_goals first
                    | (go_roundg (s.size - (k + 1)); (case measure => omega); (case rel => exact ⟨k + 1, by omega, rfl, by go_num, rfl, mgood_next HG (HX.out.2 (by have h2 := HC.out; omega))⟩))
                    | (go_ret; exact ⟨.no (fun h => by have h1 := HX.out.1 (HI.out.2 h k hlt); have h2 := HC.out; have h3 := beq_eq_false_iff_ne.1 hb; omega), rfl⟩)
              · have hd2 : decide (((s[k]'hlt).toNat : Int) ≤ 57) = false := decide_eq_false (by omega)
                rcases hbits with a1 | a1
                · skip
                  go_wp2_with fail
                  all_goals first
                    | (go_roundg (s.size - (k + 1)); (case measure => omega); (case rel => exact ⟨k + 1, by omega, rfl, by go_num, rfl, mgood_next HG (HX.out.2 (by have h2 := HC.out; omega))⟩))
                    | (go_ret; exact ⟨.no (fun h => by have h1 := HX.out.1 (HI.out.2 h k hlt); have h2 := HC.out; have h3 := beq_eq_false_iff_ne.1 hb; omega), rfl⟩)
                · have hd1 : decide (bits BinOp.or IntKind.u8 ((s[k]'hlt).toNat : Int) 32 ≤ 122) = false := decide_eq_false (by omega)
                  go_wp2_with fail
                  all_goals first
                    | (go_roundg (s.size - (k + 1)); (case measure => omega); (case rel => exact ⟨k + 1, by omega, rfl, by go_num, rfl, mgood_next HG (HX.out.2 (by have h2 := HC.out; omega))⟩))
                    | (go_ret; exact ⟨.no (fun h => by have h1 := HX.out.1 (HI.out.2 h k hlt); have h2 := HC.out; have h3 := beq_eq_false_iff_ne.1 hb; omega), rfl⟩)
          · go_wp2_with fail
            go_ret
            exact ⟨.yes (HI.out.1 fun i h2 => HG.out i (by omega)), rfl⟩
    · have HN : Hid (¬ Ident s) := fun h => hf h.2.1
      by_cases g1 : (97 : Int) ≤ ((s[0]'hp).toNat : Int)
      · have g2 : (122 : Int) < ((s[0]'hp).toNat : Int) := by rw [byteAt_eq s 0 hp] at hf; omega
        have g3 : decide (((s[0]'hp).toNat : Int) ≤ 122) = false := decide_eq_false (by omega)
        clear hf
        go_enter Yba.func8, Yba.ntmps8
        go_wp2_with fail
        go_ret
        exact ⟨.no HN.out, rfl⟩
      · have g2 : ((s[0]'hp).toNat : Int) < 97 := by omega
        clear hf g1
        go_enter Yba.func8, Yba.ntmps8
        go_wp2_with fail
        go_ret
        exact ⟨.no HN.out, rfl⟩
  · have HN : Hid (¬ Ident s) := fun h => hp h.1
    have e1 : ((s.size : Int) == 0) = true := beq_iff_eq.2 (by omega)
    go_enter Yba.func8, Yba.ntmps8
    go_wp2_with fail
    go_ret
    exact ⟨.no HN.out, rfl⟩
end Go.Proofs.Ybulkdpeg
