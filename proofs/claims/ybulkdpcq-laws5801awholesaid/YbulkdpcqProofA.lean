/-
  'Rows.LawS5801AWholeSaid': the row's step, off the guide's shell for a law over slices; the walk: YbulkdpcqWalkA.
-/
import Derived.Test.YbulkdpcqRows
import Derived.Test.YbulkdpcqOpen
import Derived.Test.YbulkdpcqWalkA
import Derived.WalkKit
import Derived.ProofKit
import Derived.OpenShut
import Derived.ShutString
import Derived.ChangeOld
import Derived.Below
import Derived.SizedLaws
namespace Go.Proofs.Ybulkdpcq.lawS5801AWhole
open Go.ChangeShapes Go.WideShapes Go.ChangeAt Go.RowKit
open Go.ChangeMaps (open_string shut_string)
set_option linter.unusedVariables false

theorem own : ownKnob Yba.prog.godebug = none := by kernel_rfl
theorem Yba.bytes22 : Yba.prog.bytesOf 22 = 8 := by kernel_rfl
theorem Yba.bytes27 : Yba.prog.bytesOf 27 = 16 := by kernel_rfl
theorem laidOut : laidOutB Yba.prog = true := by kernel_rfl

/-! ### STEP 1: THE WALK: the Go text returns true and writes nothing that was there -/
theorem walk (a0 : Int) (a1 : Option Addr) (len1 cap1 : Nat) (z1 : Nat → Int) (a2 : Option Addr) (len2 cap2 : Nat) (x2 y2 : Nat → Int) (a3 : Int) (w : World) (r1 : len1 * 8 ≤ 140737488351232) (r2 : len2 * 16 ≤ 140737488351232)
    (w1 : CameIn w a1 len1 (fun i => .int .u64 (z1 i))) (n2 : a2 = none → len2 = 0)
    (w2 : 0 < len2 → ∃ b off, a2 = some ⟨b, off, none⟩ ∧ b < w.heap.size ∧ ∀ i, i < len2 → w.cell? ⟨b, off + i * 2, none⟩ = some (.int .i64 (x2 i)) ∧ w.cell? ⟨b, off + i * 2 + 1, none⟩ = some (.int .i64 (y2 i))) :
    Calls Yba.prog 3 #[.int .u64 a0, .slice a1 len1 cap1, .slice a2 len2 cap2, .int .i64 a3] w fun e w' => e = .returned (.bool true) ∧ Below w.heap.size w w' := by
  by_cases hl : len1 + len2 ≤ 1048576
  · exact walkA a0 a1 len1 cap1 z1 a2 len2 cap2 x2 y2 a3 w hl w1.1 n2 w1.2 w2
  · have hgt : (1048576 : Int) < (len1 : Int) + (len2 : Int) := by omega
    clear w1 w2 n2
    go_enter Yba.func3, Yba.ntmps3
    go_wp2
    go_ret
    exact ⟨rfl, Below.refl _ _⟩

/-! ### THE ROW's STEP: WRITTEN OUT: LEAVE IT -/
set_option maxRecDepth 100000 in
theorem lifted (os : Os) (started : os.Started) (H : Type) (enc : TypeId × Value → H) :
    ReturnsInHanded {} Yba.checked os 3 .any (Rows.lawS5801AWholeSpec.pre6 enc Yba.prog Yba.f3 Rows.lawS5801AWholeRow.domain false) (Rows.lawS5801AWholeSpec.post enc Yba.prog Yba.f3 false true false false) := by
  refine returnsInHanded_of_change_sized (C := Yba.checked) own started (by kernel_rfl) Yba.func3
    (ChangeSpec.witness6 (enc := enc) (C := Yba.checked) false ⟨#[], #[.int .u64 0, .slice none 0 0, .slice none 0 0, .int .i64 0], []⟩ 8 (by kernel_rfl) (by kernel_rfl) (by kernel_rfl) (by kernel_rfl)) ?_
  intro W base args ds gs before hval0 hW hcnd hsz0 _
  have hval : ∀ (j : Nat) t v, Yba.f3.params[j]? = some t → args[j]? = some v → Value.okWide Yba.prog W .any base t v := hval0
  have hsz : (DataW.weightsEach Yba.prog (Yba.f3.params.toList ++ Rows.lawS5801AWholeSpec.plain.varTypes Yba.prog) (ds ++ gs)).all (· ≤ reachBytes) = true := hsz0
  have hW' := hW
  obtain ⟨p, q, hA0, hV, rfl, hfz, hnd⟩ := hW
  have hA : DataW.TrodAll enc Yba.prog W 0 (fun _ => true) true Yba.f3.params.toList args.toList ds p := hA0
  rw [Yba.params3] at hA hval hsz
  obtain ⟨v0, vs0, d0, ds0, p0, q0, hargs, rfl, rfl, h0, r0⟩ := trodAll_cons hA
  obtain ⟨v1, vs1, d1, ds1, p1, q1, rfl, rfl, rfl, h1, r1⟩ := trodAll_cons r0
  obtain ⟨v2, vs2, d2, ds2, p2, q2, rfl, rfl, rfl, h2, r2⟩ := trodAll_cons r1
  obtain ⟨v3, vs3, d3, ds3, p3, q3, rfl, rfl, rfl, h3, r3⟩ := trodAll_cons r2
  obtain ⟨rfl, rfl, rfl⟩ := trodAll_nil r3
  obtain rfl : args = #[v0, v1, v2, v3] := by cases args; simp_all
  obtain ⟨rfl, rfl⟩ := trodVars_none hV
  obtain ⟨a0, rfl, rfl, rfl, w0⟩ := open_int Yba.underlying22 (hval 0 22 v0 rfl rfl) h0
  obtain ⟨a1, len1, cap1, rfl⟩ := okWide_slice Yba.underlying23 (hval 1 23 v1 rfl rfl)
  have k1 := h1
  have lt1 : ∀ x ∈ p1, x.block < W.heap.size := by obtain ⟨m, hm⟩ := k1; exact DataW.trod_lt m _ _ _ hm
  obtain ⟨z1, w1, L1, _⟩ : ∃ z : Nat → Int, CameIn W a1 len1 (fun i => .int .u64 (z i)) ∧ LenIn d1 len1 ∧ ∀ i, i < len1 → (Lit.int .u64 (z i)).wf = true := by
    obtain ⟨fuel, hf⟩ := h1
    exact open_row Yba.underlying23 Yba.underlying22 (by kernel_rfl) (by simpa [Value.cells] using hf)
  have sz1 := sized_len (j := 1) (t := 23) hsz rfl rfl Yba.underlying23 Yba.bytes22 L1
  obtain ⟨a2, len2, cap2, rfl⟩ := okWide_slice Yba.underlying24 (hval 2 24 v2 rfl rfl)
  have k2 := h2
  have lt2 : ∀ x ∈ p2, x.block < W.heap.size := by obtain ⟨m, hm⟩ := k2; exact DataW.trod_lt m _ _ _ hm
  obtain ⟨x2, y2, n2, L2, w2⟩ : ∃ x y : Nat → Int, (a2 = none → len2 = 0) ∧ LenIn d2 len2 ∧
      (0 < len2 → ∃ b off, a2 = some ⟨b, off, none⟩ ∧ b < W.heap.size ∧ ∀ i, i < len2 → W.cell? ⟨b, off + i * 2, none⟩ = some (.int .i64 (x i)) ∧ W.cell? ⟨b, off + i * 2 + 1, none⟩ = some (.int .i64 (y i))) := by
    obtain ⟨fuel, hf⟩ := h2
    exact open_pairs Yba.underlying24 Yba.underlying27 (by kernel_rfl) rfl rfl Yba.underlying3 Yba.underlying3 (by kernel_rfl) (by kernel_rfl) (by simpa [Value.cells] using hf)
  have sz2 := sized_len (j := 2) (t := 24) hsz rfl rfl Yba.underlying24 Yba.bytes27 L2
  obtain ⟨a3, rfl, rfl, rfl, w3⟩ := open_int Yba.underlying3 (hval 3 3 v3 rfl rfl) h3
  clear hA0 hval0
  refine (walk a0 a1 len1 cap1 z1 a2 len2 cap2 x2 y2 a3 W sz1 sz2 w1 n2 w2).mono fun e W' ⟨he, bel⟩ => ?_
  subst he
  exact ⟨_, rfl, _, _, _, [], _, [], hW', trodAll_mk1 (shut_bool Yba.underlying4 _), (trodAll_cons_mk (shut_int Yba.underlying22 w0) (trodAll_cons_mk (Below.trod laidOut (by kernel_rfl) (of_decide_eq_true (by kernel_rfl)) k1 bel lt1) (trodAll_cons_mk (Below.trod laidOut (by kernel_rfl) (of_decide_eq_true (by kernel_rfl)) k2 bel lt2) (trodAll_cons_mk (shut_int Yba.underlying3 w3) trodAll_mk0)))), rfl, bel.frame _, fun h => by cases h⟩

theorem over : Rows.lawS5801AWholeRow.holds Yba.pinned (OpenSpec.ofChange Rows.lawS5801AWholeSpec) :=
  OpenClaim.holds_of_wide 3 Yba.f3 rfl rfl rfl rfl rfl rfl rfl ⟨rfl, rfl, rfl, rfl, rfl⟩ rfl rfl rfl rfl rfl (by kernel_rfl) Yba.func3 (by kernel_rfl)
    (of_decide_eq_true (by kernel_rfl)) (by unfold Func.isWrapper; first | (rw [if_pos (by decide +kernel)]; kernel_rfl) | (rw [if_neg (by decide +kernel)]; exact ⟨rfl, rfl⟩))
    (fun os started H enc _ => lifted os started H enc)

/-- ████ THE STATEMENT ████ -/
theorem proved : Rows.LawS5801AWholeSaid := over
#print axioms proved
end Go.Proofs.Ybulkdpcq.lawS5801AWhole
