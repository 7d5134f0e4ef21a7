import Derived.Test.Qxb6606068aModsB
import Derived.OpenShut
namespace Go.Proofs.Qxb6606068aMods.Fc
open Go.ChangeShapes Go.WideShapes Go.ChangeAt Go.RowKit

theorem getD_map_toNat (zs : List Int) (n i : Nat) (h : i < n) (hi : i < zs.length) (h0 : 0 ≤ zs.getD i 0) : ((((zs.take n).map Int.toNat).getD i 0 : Nat) : Int) = zs.getD i 0 := by
  have e : ((zs.take n).map Int.toNat).getD i 0 = (zs.getD i 0).toNat := by simp [List.getD, h, hi]
  rw [e]; omega

/-- from the row as the frame tells it to the row of octets -/
theorem bytes_of {w : World} {a : Option Addr} {len cap : Nat} {zs : List Int}
    (h : (a = none ∧ len = 0 ∧ cap = 0 ∧ zs = []) ∨ ∃ x, a = some x ∧ len ≤ cap ∧ cap ≤ maxLen ∧ zs.length = cap ∧ (∀ i, i < zs.length → w.cell? (x.add i) = some (.int .u8 (zs.getD i 0))) ∧ ∀ n ∈ zs, (Lit.int .u8 n).wf = true) :
    ∃ bs : List Nat, len = bs.length ∧ ByteRow w a bs ∧ (∀ b ∈ bs, b < 256) ∧ (a = none → bs = []) ∧ bs.length ≤ 9223372036854775807 := by
  rcases h with ⟨rfl, rfl, _, _⟩ | ⟨x, rfl, hl, hm, hz, hc, hw⟩
  · exact ⟨[], rfl, fun hp => absurd hp (by simp), by simp, fun _ => rfl, by simp⟩
  · have hm' : cap ≤ 9223372036854775807 := by unfold maxLen at hm; omega
    have hlen : ((zs.take len).map Int.toNat).length = len := by simp; omega
    have hbd : ∀ n ∈ zs, 0 ≤ n ∧ n ≤ 255 := fun n hn => bounds_u8 (hw n hn)
    refine ⟨(zs.take len).map Int.toNat, hlen.symm, fun hp => ?_, ?_, (fun h => by cases h), by rw [hlen]; omega⟩
    · rw [hlen] at hp
      obtain ⟨b, off, rfl, hc'⟩ := ints_at hc (by omega)
      refine ⟨b, off, rfl, ?_, fun i hi => ?_⟩
      · exact World.block_lt_of_cell? w _ (hc' 0 (by omega))
      · rw [hlen] at hi
        rw [hc' i (by omega), getD_map_toNat zs len i hi (by omega) (hbd _ (by simp [List.getD, show i < zs.length by omega])).1]
    · intro b hb
      obtain ⟨n, hn, rfl⟩ := List.mem_map.1 hb
      have := hbd n (List.mem_of_mem_take hn)
      omega
end Go.Proofs.Qxb6606068aMods.Fc
