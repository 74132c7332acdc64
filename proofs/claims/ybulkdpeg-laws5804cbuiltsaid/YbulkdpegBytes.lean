/-
  'string(b)' of a row of bytes that the call itself made. No Go text is walked here.
-/
import Derived.Test.YbulkdpegIdent
namespace Go.Proofs.Ybulkdpeg
open Go.RowKit

theorem Yba.info5 : (Yba.prog.info? 5).map (fun i => (i.zero, i.size, i.bytes)) = some (some (.int .u8 0), 1, 1) := by kernel_rfl

theorem push_all : ∀ (ns : List Int) (s : ByteArray), (ns.foldl (fun r n => r.push (UInt8.ofNat n.toNat)) s).data.toList = s.data.toList ++ ns.map (fun n => UInt8.ofNat n.toNat)
  | [], s => by simp
  | n :: ns, s => by
    rw [List.foldl_cons, push_all ns]
    simp

theorem string_of {w : World} {base g n cap : Nat} {ns : List Int} (h : w.ownsRow base 5 1 (.slice (some ⟨g, 0, none⟩) n cap) n (ns.map (Value.int .u8))) :
    ∃ s : ByteArray, s.data.toList = ns.map (fun n => UInt8.ofNat n.toNat) ∧ s.size = n ∧ (convert 23 9 (.slice (some ⟨g, 0, none⟩) n cap)).run Yba.prog w = .ok (.string s) w := by
  have hlen : (ns.map (Value.int .u8)).length = n := by simpa using h.1
  obtain ⟨_, h2⟩ := h
  rcases h2 with ⟨h2, _⟩ | ⟨g', cap', cur, h2, _, hg, hn, _, hs, ht⟩
  · simp at h2
  · simp only [Value.slice.injEq, Option.some.injEq, Addr.mk.injEq, and_true, true_and] at h2
    obtain ⟨rfl, rfl⟩ := h2
    have hload : (loadCells ⟨g, 0, none⟩ n).run Yba.prog w = .ok (ns.map (Value.int .u8)).toArray w := by
      have := run_loadCells_list (P := Yba.prog) w ⟨g, 0, none⟩ (ns.map (Value.int .u8)) (fun j v hj => by
        have hjn : j < n := by
          have := (List.getElem?_eq_some_iff.1 hj).1
          omega
        have hc : cur[j]? = some v := by
          rw [← ht, List.getElem?_take_of_lt (by omega)] at hj
          simpa using hj
        have ea : (⟨g, 0, none⟩ : Addr).add j = ⟨g, j, none⟩ := by
          unfold Addr.add
          split <;> simp_all
        rw [ea]
        simp [World.cell?, hg, hc])
      rwa [hlen] at this
    refine ⟨ns.foldl (fun r n => r.push (UInt8.ofNat n.toNat)) ByteArray.empty, ?_, ?_, ?_⟩
    · rw [push_all]; simp
    · have e := congrArg List.length (push_all ns ByteArray.empty)
      simp at e hlen
      omega
    · rw [run_convert_bytes_string w 23 9 5 _ _ _ Yba.underlying23 Yba.underlying5 Yba.underlying9]
      exact run_bytesToString w _ n cap ns hload
end Go.Proofs.Ybulkdpeg
