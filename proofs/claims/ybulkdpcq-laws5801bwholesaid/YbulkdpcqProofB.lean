/-
  'Rows.LawS5801BWholeSaid': the row's step, off the guide's shell for a law over slices.
-/
import Derived.Test.YbulkdpcqRows
import Derived.Test.YbulkdpcqOpen
import Derived.Test.YbulkdpcqWalkB
import Derived.WalkKit
import Derived.ProofKit
import Derived.OpenShut
import Derived.ShutString
import Derived.ChangeOld
import Derived.Below
import Derived.SizedLaws
namespace Go.Proofs.Ybulkdpcq.lawS5801BWhole
open Go.ChangeShapes Go.WideShapes Go.ChangeAt Go.RowKit
open Go.ChangeMaps (open_string shut_string)
set_option linter.unusedVariables false

theorem own : ownKnob Yba.prog.godebug = none := by kernel_rfl
theorem Yba.bytes4 : Yba.prog.bytesOf 4 = 1 := by kernel_rfl
theorem Yba.bytes3 : Yba.prog.bytesOf 3 = 8 := by kernel_rfl
theorem laidOut : laidOutB Yba.prog = true := by kernel_rfl

/-! ### STEP 1: THE WALK: the Go text returns true and writes nothing that was there -/
set_option maxRecDepth 100000 in
theorem walk (a0 : Option Addr) (len0 cap0 : Nat) (z0 : Nat → Bool) (a1 : Option Addr) (len1 cap1 : Nat) (z1 : Nat → Int) (a2 : Option Addr) (len2 cap2 : Nat) (z2 : Nat → Int) (w : World)
    (s0 : len0 * 1 ≤ 140737488351232) (s1 : len1 * 8 ≤ 140737488351232) (s2 : len2 * 8 ≤ 140737488351232)
    (w0 : CameIn w a0 len0 (fun i => .bool (z0 i))) (w1 : CameIn w a1 len1 (fun i => .int .i64 (z1 i))) (w2 : CameIn w a2 len2 (fun i => .int .i64 (z2 i))) :
    Calls Yba.prog 4 #[.slice a0 len0 cap0, .slice a1 len1 cap1, .slice a2 len2 cap2] w fun e w' => e = .returned (.bool true) ∧ Below w.heap.size w w' := by
  by_cases hl : len0 ≤ 4096
  · by_cases hl2 : len2 ≤ 4096
    · exact walkB a0 len0 cap0 z0 a1 len1 cap1 z1 a2 len2 cap2 z2 w hl hl2 (by omega) w0 w1 w2
    · have hle : ¬ (4096 : Int) < (len0 : Int) := by omega
      have hgt : (4096 : Int) < (len2 : Int) := by omega
      clear w0 w1 w2
      go_enter Yba.func4, Yba.ntmps4
      go_wp2
      go_ret
      exact ⟨rfl, Below.refl _ _⟩
  · have hgt : (4096 : Int) < (len0 : Int) := by omega
    clear w0 w1 w2
    go_enter Yba.func4, Yba.ntmps4
    go_wp2
    go_ret
    exact ⟨rfl, Below.refl _ _⟩

/-! ### THE ROW's STEP: WRITTEN OUT: LEAVE IT -/
set_option maxRecDepth 100000 in
theorem lifted (os : Os) (started : os.Started) (H : Type) (enc : TypeId × Value → H) :
    ReturnsInHanded {} Yba.checked os 4 .any (Rows.lawS5801BWholeSpec.pre6 enc Yba.prog Yba.f4 Rows.lawS5801BWholeRow.domain false) (Rows.lawS5801BWholeSpec.post enc Yba.prog Yba.f4 false true false false) := by
  refine returnsInHanded_of_change_sized (C := Yba.checked) own started (by kernel_rfl) Yba.func4
    (ChangeSpec.witness6 (enc := enc) (C := Yba.checked) false ⟨#[], #[.slice none 0 0, .slice none 0 0, .slice none 0 0], []⟩ 8 (by kernel_rfl) (by kernel_rfl) (by kernel_rfl) (by kernel_rfl)) ?_
  intro W base args ds gs before hval0 hW hcnd hsz0 _
  have hval : ∀ (j : Nat) t v, Yba.f4.params[j]? = some t → args[j]? = some v → Value.okWide Yba.prog W .any base t v := hval0
  have hsz : (DataW.weightsEach Yba.prog (Yba.f4.params.toList ++ Rows.lawS5801BWholeSpec.plain.varTypes Yba.prog) (ds ++ gs)).all (· ≤ reachBytes) = true := hsz0
  have hW' := hW
  obtain ⟨p, q, hA0, hV, rfl, hfz, hnd⟩ := hW
  have hA : DataW.TrodAll enc Yba.prog W 0 (fun _ => true) true Yba.f4.params.toList args.toList ds p := hA0
  rw [Yba.params4] at hA hval hsz
  obtain ⟨v0, vs0, d0, ds0, p0, q0, hargs, rfl, rfl, h0, r0⟩ := trodAll_cons hA
  obtain ⟨v1, vs1, d1, ds1, p1, q1, rfl, rfl, rfl, h1, r1⟩ := trodAll_cons r0
  obtain ⟨v2, vs2, d2, ds2, p2, q2, rfl, rfl, rfl, h2, r2⟩ := trodAll_cons r1
  obtain ⟨rfl, rfl, rfl⟩ := trodAll_nil r2
  obtain rfl : args = #[v0, v1, v2] := by cases args; simp_all
  obtain ⟨rfl, rfl⟩ := trodVars_none hV
  obtain ⟨a0, len0, cap0, rfl⟩ := okWide_slice Yba.underlying38 (hval 0 38 v0 rfl rfl)
  have k0 := h0
  have lt0 : ∀ x ∈ p0, x.block < W.heap.size := by obtain ⟨m, hm⟩ := k0; exact DataW.trod_lt m _ _ _ hm
  obtain ⟨z0, w0, L0⟩ : ∃ z : Nat → Bool, CameIn W a0 len0 (fun i => .bool (z i)) ∧ LenIn d0 len0 := by
    obtain ⟨fuel, hf⟩ := h0
    exact open_bits Yba.underlying38 Yba.underlying4 (by kernel_rfl) (by simpa [Value.cells] using hf)
  have sz0 := sized_len (j := 0) (t := 38) hsz rfl rfl Yba.underlying38 Yba.bytes4 L0
  obtain ⟨a1, len1, cap1, rfl⟩ := okWide_slice Yba.underlying31 (hval 1 31 v1 rfl rfl)
  have k1 := h1
  have lt1 : ∀ x ∈ p1, x.block < W.heap.size := by obtain ⟨m, hm⟩ := k1; exact DataW.trod_lt m _ _ _ hm
  obtain ⟨z1, w1, L1, _⟩ : ∃ z : Nat → Int, CameIn W a1 len1 (fun i => .int .i64 (z i)) ∧ LenIn d1 len1 ∧ ∀ i, i < len1 → (Lit.int .i64 (z i)).wf = true := by
    obtain ⟨fuel, hf⟩ := h1
    exact open_row Yba.underlying31 Yba.underlying3 (by kernel_rfl) (by simpa [Value.cells] using hf)
  have sz1 := sized_len (j := 1) (t := 31) hsz rfl rfl Yba.underlying31 Yba.bytes3 L1
  obtain ⟨a2, len2, cap2, rfl⟩ := okWide_slice Yba.underlying31 (hval 2 31 v2 rfl rfl)
  have k2 := h2
  have lt2 : ∀ x ∈ p2, x.block < W.heap.size := by obtain ⟨m, hm⟩ := k2; exact DataW.trod_lt m _ _ _ hm
  obtain ⟨z2, w2, L2, _⟩ : ∃ z : Nat → Int, CameIn W a2 len2 (fun i => .int .i64 (z i)) ∧ LenIn d2 len2 ∧ ∀ i, i < len2 → (Lit.int .i64 (z i)).wf = true := by
    obtain ⟨fuel, hf⟩ := h2
    exact open_row Yba.underlying31 Yba.underlying3 (by kernel_rfl) (by simpa [Value.cells] using hf)
  have sz2 := sized_len (j := 2) (t := 31) hsz rfl rfl Yba.underlying31 Yba.bytes3 L2
  clear hA0 hval0
  refine (walk a0 len0 cap0 z0 a1 len1 cap1 z1 a2 len2 cap2 z2 W sz0 sz1 sz2 w0 w1 w2).mono fun e W' ⟨he, bel⟩ => ?_
  subst he
  exact ⟨_, rfl, _, _, _, [], _, [], hW', trodAll_mk1 (shut_bool Yba.underlying4 _), (trodAll_cons_mk (Below.trod laidOut (by kernel_rfl) (of_decide_eq_true (by kernel_rfl)) k0 bel lt0) (trodAll_cons_mk (Below.trod laidOut (by kernel_rfl) (of_decide_eq_true (by kernel_rfl)) k1 bel lt1) (trodAll_cons_mk (Below.trod laidOut (by kernel_rfl) (of_decide_eq_true (by kernel_rfl)) k2 bel lt2) trodAll_mk0))), rfl, bel.frame _, fun h => by cases h⟩

theorem over : Rows.lawS5801BWholeRow.holds Yba.pinned (OpenSpec.ofChange Rows.lawS5801BWholeSpec) :=
  OpenClaim.holds_of_wide 4 Yba.f4 rfl rfl rfl rfl rfl rfl rfl ⟨rfl, rfl, rfl, rfl, rfl⟩ rfl rfl rfl rfl rfl (by kernel_rfl) Yba.func4 (by kernel_rfl)
    (of_decide_eq_true (by kernel_rfl)) (by unfold Func.isWrapper; first | (rw [if_pos (by decide +kernel)]; kernel_rfl) | (rw [if_neg (by decide +kernel)]; exact ⟨rfl, rfl⟩))
    (fun os started H enc _ => lifted os started H enc)

/-- ████ THE STATEMENT ████ -/
theorem proved : Rows.LawS5801BWholeSaid := over
#print axioms proved
end Go.Proofs.Ybulkdpcq.lawS5801BWhole
