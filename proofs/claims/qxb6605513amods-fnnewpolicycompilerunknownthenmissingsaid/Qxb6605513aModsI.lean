import Derived.Test.Qxb6605513aModsF
import Derived.LaidEqlPtr
namespace Go.Proofs.Qxb6605513aMods.Pc
open Go.ChangeShapes Go.WideShapes Go.ChangeAt Go.RowKit

theorem Inv.slice {w : World} {c : Nat} {k src ns nm : ByteArray} {v : Value} {ps : List Nat} {rs : List (ByteArray × ByteArray)} (h : Inv w c k src ns nm v ps rs) :
    ∃ ao cap, v = .slice ao rs.length cap ∧ (0 < rs.length → ∃ g, ao = some ⟨g, 0, none⟩ ∧ ∀ i, i < rs.length → w.cell? ⟨g, i, none⟩ = some (.pointer (some ⟨ps.getD i 0, 0, none⟩)) ∧ w.heap[ps.getD i 0]? = some (recOf k src ns nm (rs.getD i (ByteArray.empty, ByteArray.empty)).1 (rs.getD i (ByteArray.empty, ByteArray.empty)).2)) := by
  have hl := h.len
  rcases h.own.2 with ⟨hv, h0⟩ | ⟨g, cap, cur, hv, _⟩
  · exact ⟨none, 0, by rw [hv, ← hl, h0], fun hp => by omega⟩
  · refine ⟨_, cap, by rw [hv, hl], fun hp => ⟨g, rfl, fun i hi => ⟨?_, ?_⟩⟩⟩
    · have hown := h.own
      rw [hv] at hown
      rw [hown.cellAt i (by omega)]
      simp [List.getD, show i < ps.length by omega, ptr]
    · exact h.recs i _ _ (by simp [List.getD, show i < ps.length by omega]) (by simp [List.getD, hi])

theorem Inv.at {w : World} {c : Nat} {k src ns nm : ByteArray} {v : Value} {ps : List Nat} {rs : List (ByteArray × ByteArray)} (h : Inv w c k src ns nm v ps rs) (i : Nat) (hi : i < rs.length) : c < ps.getD i 0 ∧ ps.getD i 0 < w.heap.size := by
  have hm : ps.getD i 0 ∈ ps := by
    have hl : i < ps.length := by rw [h.len]; exact hi
    simp [List.getD, hl]
  exact ⟨h.gt _ hm, h.plt _ hm⟩

/-- the three lists of problems as the law reads them -/
structure Lists (w : World) (k src ns nm : ByteArray) (s1 s2 : List ByteArray) (va vu vm : Value) (qa qu qm : Nat → Nat) : Prop where
  a : ∃ ao cap, va = .slice ao (s1.length + s2.length) cap ∧ (0 < s1.length + s2.length → ∃ g, ao = some ⟨g, 0, none⟩ ∧
    (∀ i, i < s1.length + s2.length → w.cell? ⟨g, i, none⟩ = some (.pointer (some ⟨qa i, 0, none⟩))))
  u : ∃ ao cap, vu = .slice ao s1.length cap ∧ (0 < s1.length → ∃ g, ao = some ⟨g, 0, none⟩ ∧ (∀ i, i < s1.length → w.cell? ⟨g, i, none⟩ = some (.pointer (some ⟨qu i, 0, none⟩))))
  m : ∃ ao cap, vm = .slice ao s2.length cap ∧ (0 < s2.length → ∃ g, ao = some ⟨g, 0, none⟩ ∧ (∀ i, i < s2.length → w.cell? ⟨g, i, none⟩ = some (.pointer (some ⟨qm i, 0, none⟩))))
  ra : ∀ i, i < s1.length → w.heap[qa i]? = some (recOf k src ns nm (s1.getD i ByteArray.empty) (du k (s1.getD i ByteArray.empty)))
  rb : ∀ i, i < s2.length → w.heap[qa (s1.length + i)]? = some (recOf k src ns nm (s2.getD i ByteArray.empty) (dm k))
  ru : ∀ i, i < s1.length → w.heap[qu i]? = some (recOf k src ns nm (s1.getD i ByteArray.empty) (du k (s1.getD i ByteArray.empty)))
  rm : ∀ i, i < s2.length → w.heap[qm i]? = some (recOf k src ns nm (s2.getD i ByteArray.empty) (dm k))
  au : ∀ i j, i < s1.length + s2.length → j < s1.length → qa i ≠ qu j
  am : ∀ i j, i < s1.length + s2.length → j < s2.length → qa i ≠ qm j
  um : ∀ i j, i < s1.length → j < s2.length → qu i ≠ qm j

theorem lists_mk {w4 w5 w6 w7 : World} {k src ns nm : ByteArray} {s1 s2 : List ByteArray} {va vu vm : Value} {psa psu psm : List Nat}
    (ia : Inv w5 (w4.heap.size + 1) k src ns nm va psa (s1.map (fun f => (f, du k f)) ++ s2.map (fun f => (f, dm k))))
    (iu : Inv w6 (w5.heap.size + 1) k src ns nm vu psu (s1.map (fun f => (f, du k f)) ++ ([] : List ByteArray).map (fun f => (f, dm k))))
    (im : Inv w7 (w6.heap.size + 1) k src ns nm vm psm (([] : List ByteArray).map (fun f => (f, du k f)) ++ s2.map (fun f => (f, dm k))))
    (hb6 : Below w5.heap.size w5 w6) (hb7 : Below w6.heap.size w6 w7) :
    Lists w7 k src ns nm s1 s2 va vu vm (fun i => psa.getD i 0) (fun i => psu.getD i 0) (fun i => psm.getD i 0) := by
  have ea : (s1.map (fun f => (f, du k f)) ++ s2.map (fun f => (f, dm k))).length = s1.length + s2.length := by simp
  have iu' : Inv w6 (w5.heap.size + 1) k src ns nm vu psu (s1.map (fun f => (f, du k f))) := by simpa using iu
  have im' : Inv w7 (w6.heap.size + 1) k src ns nm vm psm (s2.map (fun f => (f, dm k))) := by simpa using im
  have ia7 := (ia.keep hb6).keep hb7
  have iu7 := iu'.keep hb7
  have s6 := hb6.size
  have s7 := hb7.size
  have pa : ∀ i, i < s1.length + s2.length → psa.getD i 0 < w5.heap.size := fun i hi => (ia.at i (by rw [ea]; exact hi)).2
  have pu : ∀ i, i < s1.length → w5.heap.size + 1 < psu.getD i 0 ∧ psu.getD i 0 < w6.heap.size := fun i hi => iu'.at i (by simpa using hi)
  have pm : ∀ i, i < s2.length → w6.heap.size + 1 < psm.getD i 0 := fun i hi => (im'.at i (by simpa using hi)).1
  obtain ⟨aa, ca, va', fa⟩ := ia7.slice
  obtain ⟨au, cu, vu', fu⟩ := iu7.slice
  obtain ⟨am, cm, vm', fm⟩ := im'.slice
  rw [ea] at va' fa
  rw [List.length_map] at vu' fu vm' fm
  refine ⟨⟨aa, ca, va', fun hp => ?_⟩, ⟨au, cu, vu', fun hp => ?_⟩, ⟨am, cm, vm', fun hp => ?_⟩, ?_, ?_, ?_, ?_, ?_, ?_, ?_⟩
  · obtain ⟨g, hg, h⟩ := fa hp; exact ⟨g, hg, fun i hi => (h i hi).1⟩
  · obtain ⟨g, hg, h⟩ := fu hp; exact ⟨g, hg, fun i hi => (h i hi).1⟩
  · obtain ⟨g, hg, h⟩ := fm hp; exact ⟨g, hg, fun i hi => (h i hi).1⟩
  · intro i hi
    obtain ⟨g, hg, h⟩ := fa (by omega)
    have := (h i (by omega)).2
    simpa [List.getD, List.getElem?_append, hi] using this
  · intro i hi
    obtain ⟨g, hg, h⟩ := fa (by omega)
    have := (h (s1.length + i) (by omega)).2
    simpa [List.getD, List.getElem?_append, hi] using this
  · intro i hi
    obtain ⟨g, hg, h⟩ := fu (by omega)
    have := (h i (by omega)).2
    simpa [List.getD, hi] using this
  · intro i hi
    obtain ⟨g, hg, h⟩ := fm (by omega)
    have := (h i (by omega)).2
    simpa [List.getD, hi] using this
  · intro i j hi hj; have := pa i hi; have := pu j hj; show psa.getD i 0 ≠ psu.getD j 0; omega
  · intro i j hi hj; have := pa i hi; have := pm j hj; show psa.getD i 0 ≠ psm.getD j 0; omega
  · intro i j hi hj; have := pu i hi; have := pm j hj; show psu.getD i 0 ≠ psm.getD j 0; omega

theorem cell_heap {w w' : World} (h : w.heap = w'.heap) : ∀ a, w.cell? a = w'.cell? a := fun a => by simp [World.cell?, h]
theorem du_dm (k f : ByteArray) : ((du k f).toList == (dm k).toList) = false := by
  rw [beq_eq_false_iff_ne, ByteArray.toList_eq, ByteArray.toList_eq]
  unfold du dm
  split
  · simp only [ByteArray.data_append, Array.toList_append, List.append_assoc]
    intro e
    have e := List.append_cancel_left (List.append_cancel_left e)
    simp at e
  · simp only [ByteArray.data_append, Array.toList_append, List.append_assoc]
    intro e
    have e := List.append_cancel_left (List.append_cancel_left e)
    simp at e
theorem size36 : (Trym.prog.info? 36).map (fun i => i.size) = some 6 := by kernel_rfl
theorem eql33 (w : World) (p q : Nat) {k src ns nm f d k' src' ns' nm' f' d' : ByteArray} (hne : p ≠ q) (hp : w.heap[p]? = some (recOf k src ns nm f d)) (hq : w.heap[q]? = some (recOf k' src' ns' nm' f' d')) :
    (binOp .eql 33 (.pointer (some ⟨p, 0, none⟩)) (.pointer (some ⟨q, 0, none⟩))).run Trym.prog w = .ok (.bool false) w := by
  obtain ⟨j, hj, hjs⟩ := Option.map_eq_some_iff.1 size36
  exact run_eql_ptr_other w Trym.underlying33 hj (by rw [hjs]; decide) (fun e => hne (by injection e)) hp hq
end Go.Proofs.Qxb6605513aMods.Pc
