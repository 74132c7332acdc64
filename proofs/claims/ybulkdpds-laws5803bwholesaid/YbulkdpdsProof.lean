/-
  'Rows.LawS5803BWholeSaid': the row's step, off the guide's shell; the walks: YbulkdpdsWalk, YbulkdpdsLaw.
-/
import Derived.Test.YbulkdpdsRows
import Derived.Test.YbulkdpdsLaw
import Derived.WalkKit
import Derived.ProofKit
import Derived.OpenShut
import Derived.ShutString
namespace Go.Proofs.Ybulkdpds.lawS5803BWhole
open Go.ChangeShapes Go.WideShapes Go.ChangeAt Go.RowKit
open Go.ChangeMaps (open_string shut_string)
set_option linter.unusedVariables false      -- a walk need not use every 'w<i>' (that an integer argument fits its kind)

theorem own : ownKnob Yba.prog.godebug = none := by kernel_rfl

/-! ### STEP 1: THE WALK: the Go text returns true -/
theorem last_form (s sub : List UInt8) : Lib.lastIndex s sub = -1 ∨ ∃ k : Nat, k ≤ s.length ∧ Lib.lastIndex s sub = (k : Int) := by
  unfold Lib.lastIndex
  split
  · rcases Lib.lastOcc_spec s sub (s.length - sub.length + 1) with ⟨h, _⟩ | ⟨i, hi, h, _⟩
    · exact .inl h
    · exact .inr ⟨i, by omega, h⟩
  · exact .inl rfl

set_option maxRecDepth 100000 in
theorem walk (a0 : ByteArray) (a1 : ByteArray) (w0 : a0.size ≤ maxLen) (w1 : a1.size ≤ maxLen) (w : World) :
    Calls Yba.prog 3 #[.string a0, .string a1] w fun e w' => e = .returned (.bool true) ∧ Grown w w' := by
  unfold maxLen at w0 w1
  by_cases hs : a0.size ≤ 4096
  · by_cases hp : a1.size ≤ 4096
    · cases h0 : a1.toList.isEmpty with
      | true => exact law_empty a0 a1 w hs h0 hp
      | false =>
        have h1 : 1 ≤ a1.size := by
          have e : a1.toList.length = a1.size := by rw [ByteArray.toList_eq]; simp
          cases h : a1.toList with
          | nil => rw [h] at h0; cases h0
          | cons x l => rw [h] at e; simp at e; omega
        rcases last_form a0.data.toList a1.data.toList with hl | ⟨k, hk, hl⟩
        · exact law_none a0 a1 w hs h0 h1 hp hl
        · exact law_found a0 a1 w hs h0 h1 hp k (by simpa using hk) hl
    · have hgt : (4096 : Int) < (a1.size : Int) := by omega
      have hle : ¬ (4096 : Int) < (a0.size : Int) := by omega
      go_enter Yba.func3, Yba.ntmps3
      go_wp2
      go_ret
      exact ⟨rfl, Grown.refl _⟩
  · have hgt : (4096 : Int) < (a0.size : Int) := by omega
    go_enter Yba.func3, Yba.ntmps3
    go_wp2
    go_ret
    exact ⟨rfl, Grown.refl _⟩

/-! ### THE ROW's STEP: WRITTEN OUT: LEAVE IT -/
set_option maxRecDepth 100000 in
theorem lifted (os : Os) (started : os.Started) (H : Type) (enc : TypeId × Value → H) :
    ReturnsInHanded {} Yba.checked os 3 .any (Rows.lawS5803BWholeSpec.pre6 enc Yba.prog Yba.f3 Rows.lawS5803BWholeRow.domain false) (Rows.lawS5803BWholeSpec.post enc Yba.prog Yba.f3 false true false false) := by
  refine returnsInHanded_of_change (C := Yba.checked) own started (by kernel_rfl) Yba.func3
    (ChangeSpec.witness6 (enc := enc) (C := Yba.checked) false ⟨#[], #[.string ByteArray.empty, .string ByteArray.empty], []⟩ 8 (by kernel_rfl) (by kernel_rfl) (by kernel_rfl) (by kernel_rfl)) ?_
  intro W base args ds gs before hval0 hW hcnd _
  have hval : ∀ (j : Nat) t v, Yba.f3.params[j]? = some t → args[j]? = some v → Value.okWide Yba.prog W .any base t v := hval0
  have hW' := hW
  obtain ⟨p, q, hA0, hV, rfl, hfz, hnd⟩ := hW
  have hA : DataW.TrodAll enc Yba.prog W 0 (fun _ => true) true Yba.f3.params.toList args.toList ds p := hA0
  rw [Yba.params3] at hA hval
  obtain ⟨v0, vs0, d0, ds0, p0, q0, hargs, rfl, rfl, h0, r0⟩ := trodAll_cons hA
  obtain ⟨v1, vs1, d1, ds1, p1, q1, rfl, rfl, rfl, h1, r1⟩ := trodAll_cons r0
  obtain ⟨rfl, rfl, rfl⟩ := trodAll_nil r1
  obtain rfl : args = #[v0, v1] := by cases args; simp_all
  obtain ⟨rfl, rfl⟩ := trodVars_none hV
  obtain ⟨a0, rfl, rfl, rfl, w0⟩ := open_string Yba.underlying9 (hval 0 9 v0 rfl rfl) h0
  obtain ⟨a1, rfl, rfl, rfl, w1⟩ := open_string Yba.underlying9 (hval 1 9 v1 rfl rfl) h1
  clear hA0 hval0
  simp only [List.append_nil] at hW'
  refine (walk a0 a1 w0 w1 W).mono fun e W' ⟨he, hg⟩ => ?_
  subst he
  exact ⟨_, rfl, post_of_same (pa := []) (pv := []) hW' (fun _ _ _ => (trodAll_cons_mk (shut_bool Yba.underlying4 _) trodAll_mk0)) (fun sp _ => (trodAll_cons_mk (shut_string Yba.underlying9 w0) (trodAll_cons_mk (shut_string Yba.underlying9 w1) trodAll_mk0))) (fun _ _ => rfl) rfl
    (hg.frame _) hg.2.1 (ok_one (by kernel_rfl) rfl (okWide_bool_mk Yba.underlying4 _))⟩

theorem over : Rows.lawS5803BWholeRow.holds Yba.pinned (OpenSpec.ofChange Rows.lawS5803BWholeSpec) :=
  OpenClaim.holds_of_wide 3 Yba.f3 rfl rfl rfl rfl rfl rfl rfl ⟨rfl, rfl, rfl, rfl, rfl⟩ rfl rfl rfl rfl rfl (by kernel_rfl) Yba.func3 (by kernel_rfl)
    (of_decide_eq_true (by kernel_rfl)) (by unfold Func.isWrapper; first | (rw [if_pos (by decide +kernel)]; kernel_rfl) | (rw [if_neg (by decide +kernel)]; exact ⟨rfl, rfl⟩))
    (fun os started H enc _ => lifted os started H enc)

/-- ████ THE STATEMENT ████ -/
theorem proved : Rows.LawS5803BWholeSaid :=
  over
#print axioms proved
end Go.Proofs.Ybulkdpds.lawS5803BWhole
