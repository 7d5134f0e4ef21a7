import Derived.Test.Qxb6600987aModsB
import Derived.OpenShut
namespace Go.Proofs.Qxb6600987aMods.Pt
open Go.ChangeShapes Go.WideShapes Go.ChangeAt Go.RowKit

/-- from the row as the frame tells it to the row of its elements -/
theorem ints_of {w : World} {a : Option Addr} {len cap : Nat} {zs : List Int}
    (h : (a = none ∧ len = 0 ∧ cap = 0 ∧ zs = []) ∨ ∃ x, a = some x ∧ len ≤ cap ∧ cap ≤ maxLen ∧ zs.length = cap ∧ (∀ i, i < zs.length → w.cell? (x.add i) = some (.int .i64 (zs.getD i 0))) ∧ ∀ n ∈ zs, (Lit.int .i64 n).wf = true) :
    ∃ l : List Int, len = l.length ∧ IntRow w a l ∧ (∀ x ∈ l, (Lit.int .i64 x).wf = true) ∧ (a = none → l = []) ∧ l.length ≤ 9223372036854775807 := by
  rcases h with ⟨rfl, rfl, _, _⟩ | ⟨x, rfl, hl, hm, hz, hc, hw⟩
  · exact ⟨[], rfl, fun hp => absurd hp (by simp), by simp, fun _ => rfl, by simp⟩
  · have hm' : cap ≤ 9223372036854775807 := by unfold maxLen at hm; omega
    have hlen : (zs.take len).length = len := by simp; omega
    refine ⟨zs.take len, hlen.symm, fun hp => ?_, fun n hn => hw n (List.mem_of_mem_take hn), (fun h => by cases h), by rw [hlen]; omega⟩
    rw [hlen] at hp
    obtain ⟨b, off, rfl, hc'⟩ := ints_at hc (by omega)
    refine ⟨b, off, rfl, ?_, fun i hi => ?_⟩
    · exact World.block_lt_of_cell? w _ (hc' 0 (by omega))
    · rw [hlen] at hi
      rw [hc' i (by omega)]
      simp [List.getD, hi]
end Go.Proofs.Qxb6600987aMods.Pt
