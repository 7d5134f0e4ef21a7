import Derived.Test.Qxb6605513aModsA
namespace Go.Proofs.Qxb6605513aMods.Pc
open Go.ChangeShapes Go.WideShapes Go.ChangeAt Go.RowKit

theorem Inv.lt {w : World} {c : Nat} {k src ns nm : ByteArray} {v : Value} {ps : List Nat} {rs : List (ByteArray × ByteArray)} (h : Inv w c k src ns nm v ps rs) : c < w.heap.size := World.block_lt_of_cell? w _ h.c4

theorem Inv.plt {w : World} {c : Nat} {k src ns nm : ByteArray} {v : Value} {ps : List Nat} {rs : List (ByteArray × ByteArray)} (h : Inv w c k src ns nm v ps rs) : ∀ p ∈ ps, p < w.heap.size := by
  intro p hp
  obtain ⟨i, hi, rfl⟩ := List.mem_iff_getElem.1 hp
  have := h.recs i ps[i] (rs[i]'(by rw [← h.len]; exact hi)) (by simp) (by simp)
  exact (Array.getElem?_eq_some_iff.1 this).1

theorem Inv.keep {w w' : World} {c : Nat} {k src ns nm : ByteArray} {v : Value} {ps : List Nat} {rs : List (ByteArray × ByteArray)} (h : Inv w c k src ns nm v ps rs) (hb : Below w.heap.size w w') : Inv w' c k src ns nm v ps rs := by
  have lc := h.lt
  refine ⟨?_, ?_, ?_, ?_, ?_, ?_, ?_, h.len, ?_, h.gt, h.far⟩
  · rw [hb.cell (p := ⟨c, 0, none⟩) lc]; exact h.c0
  · rw [hb.cell (p := ⟨c, 1, none⟩) lc]; exact h.c1
  · rw [hb.cell (p := ⟨c, 2, none⟩) lc]; exact h.c2
  · rw [hb.cell (p := ⟨c, 3, none⟩) lc]; exact h.c3
  · rw [hb.cell (p := ⟨c, 4, none⟩) lc]; exact h.c4
  · rw [hb.frozen (p := ⟨c, 4, none⟩) lc]; exact h.fz
  · exact h.own.kept (row := none) ⟨hb.os, hb.tape, hb.output, hb.size, fun j hj _ => hb.block j hj⟩ (by cases hv : v.ownBlock <;> simp)
  · intro i p r hp hr
    rw [hb.block p (h.plt p (List.mem_of_getElem? hp))]
    exact h.recs i p r hp hr

theorem f14i (c : Nat) (k src ns nm at_ dt : ByteArray) (v : Value) (ps : List Nat) (rs : List (ByteArray × ByteArray)) (w : World) (h : Inv w c k src ns nm v ps rs) (hn : ps.length ≤ 1000000) :
    Calls Trym.prog 14 #[.pointer (some ⟨c, 0, none⟩), .string at_, .string dt] w fun e w' => e = .returned (.tuple #[]) ∧
      ∃ v' p, Inv w' c k src ns nm v' (ps ++ [p]) (rs ++ [(at_, dt)]) ∧ Below c w w' := by
  obtain ⟨ao, cap, rfl⟩ : ∃ ao cap, v = .slice ao ps.length cap := by
    rcases h.own.2 with ⟨hv, h0⟩ | ⟨g, cap, cur, hv, _⟩
    · exact ⟨none, 0, by rw [hv, h0]⟩
    · exact ⟨_, _, hv⟩
  have lc := h.lt
  refine (f14 c k src ns nm at_ dt ao ps.length cap _ w h.c0 h.c1 h.c2 h.c3 h.c4 h.fz h.own hn).mono ?_
  rintro e w' ⟨rfl, g, cap', w1, rfl, hown, hgrow, hat⟩
  have hsz : w.heap.size + 2 ≤ w1.heap.size := by have := hgrow.size; simpa using this
  have hrow : ∀ j, (Value.ownBlock (.slice ao ps.length cap)) = some j → c + 1 ≤ j ∧ j < w.heap.size := h.own.lt
  have hblk : ∀ j, j < w.heap.size → some j ≠ Value.ownBlock (.slice ao ps.length cap) → w1.heap[j]? = w.heap[j]? := by
    intro j hj hne
    rw [hgrow.block j (by simp; omega) hne, Below.heap_alloc _ _ _ (by simp; omega), Below.heap_alloc _ _ _ hj]
  have hc1 : some c ≠ Value.ownBlock (.slice ao ps.length cap) := fun e => by have := hrow c e.symm; omega
  have hcb := hblk c lc hc1
  have hgc : g ≠ c := by
    rcases hat with hat | hat
    · have := hrow g hat; omega
    · omega
  have hgt : c + 1 ≤ g := by
    rcases hat with hat | hat
    · exact (hrow g hat).1
    · omega
  have cell_c : ∀ o, o ≠ 4 → (w1.setCell ⟨c, 4, none⟩ (.slice (some ⟨g, 0, none⟩) (ps.length + 1) cap')).cell? ⟨c, o, none⟩ = w.cell? ⟨c, o, none⟩ := by
    intro o ho
    rw [World.cell?_setCell_other _ _ _ _ (by intro e; injection e with _ e2; exact ho e2.symm)]
    exact World.cell?_of_block (a := ⟨c, o, none⟩) hcb
  have c4 : w1.cell? ⟨c, 4, none⟩ = some (.slice ao ps.length cap) := (World.cell?_of_block (a := ⟨c, 4, none⟩) hcb).trans h.c4
  refine ⟨rfl, .slice (some ⟨g, 0, none⟩) (ps.length + 1) cap', w.heap.size, ⟨?_, ?_, ?_, ?_, ?_, ?_, ?_, ?_, ?_, ?_, ?_⟩, ?_⟩
  · rw [cell_c 0 (by decide)]; exact h.c0
  · rw [cell_c 1 (by decide)]; exact h.c1
  · rw [cell_c 2 (by decide)]; exact h.c2
  · rw [cell_c 3 (by decide)]; exact h.c3
  · exact World.cell?_setCell_same _ _ _ c4
  · rw [World.frozen?_setCell]; exact (World.frozen?_of_block (a := ⟨c, 4, none⟩) hcb).trans h.fz
  · have := ownsRow_setCell_below hown (a := ⟨c, 4, none⟩) (by simp) (.slice (some ⟨g, 0, none⟩) (ps.length + 1) cap')
    simpa using this
  · simp [h.len]
  · intro i p r hp hr
    by_cases hi : i < ps.length
    · rw [List.getElem?_append_left hi] at hp
      rw [List.getElem?_append_left (by rw [← h.len]; exact hi)] at hr
      have hpm := List.mem_of_getElem? hp
      have hpc := h.gt p hpm
      rw [Below.heap_setCell _ _ _ _ (by simp; omega), hblk p (h.plt p hpm) (fun e => h.far p hpm e.symm)]
      exact h.recs i p r hp hr
    · have hi' : i = ps.length := by
        have := (List.getElem?_eq_some_iff.1 hp).1
        simp at this; omega
      subst hi'
      simp at hp
      rw [h.len] at hr
      simp at hr
      subst hp hr
      rw [Below.heap_setCell _ _ _ _ (by simp; omega), hgrow.block _ (by simp; omega) (fun e => by have := hrow _ e.symm; omega), Below.heap_alloc _ _ _ (by simp)]
      exact heap_alloc_new _ _
  · intro p hp
    rcases List.mem_append.1 hp with hp | hp
    · exact h.gt p hp
    · simp at hp; omega
  · intro p hp
    have hg' : Value.ownBlock (.slice (some ⟨g, 0, none⟩) (ps.length + 1) cap') = some g := rfl
    rw [hg']
    intro e
    injection e with e
    subst e
    rcases List.mem_append.1 hp with hp | hp
    · rcases hat with hat | hat
      · exact h.far _ hp hat
      · have := h.plt _ hp; omega
    · simp at hp
      rcases hat with hat | hat
      · have := hrow _ hat; omega
      · omega
  · refine Below.setCell ?_ (by simp) _
    refine ⟨hgrow.os, hgrow.tape, hgrow.output, by omega, fun j hj => hblk j (by omega) (fun e => by have := hrow j e.symm; omega)⟩
end Go.Proofs.Qxb6605513aMods.Pc
