import Derived.Test.Qxb6605513aModsF
namespace Go.Proofs.Qxb6605513aMods.Pc
open Go.ChangeShapes Go.WideShapes Go.ChangeAt Go.RowKit

theorem rec_cells {w : World} {p : Nat} {k src ns nm f d : ByteArray} (h : w.heap[p]? = some (recOf k src ns nm f d)) :
    w.cell? ⟨p, 0, none⟩ = some (.string src) ∧ w.cell? ⟨p, 1, none⟩ = some (.string k) ∧ w.cell? ⟨p, 2, none⟩ = some (.string ns) ∧ w.cell? ⟨p, 3, none⟩ = some (.string nm) ∧ w.cell? ⟨p, 4, none⟩ = some (.string f) ∧ w.cell? ⟨p, 5, none⟩ = some (.string d) :=
  ⟨cell_of_row _ _ 0 _ 36 _ h, cell_of_row _ _ 1 _ 36 _ h, cell_of_row _ _ 2 _ 36 _ h, cell_of_row _ _ 3 _ 36 _ h, cell_of_row _ _ 4 _ 36 _ h, cell_of_row _ _ 5 _ 36 _ h⟩

set_option maxHeartbeats 1600000 in
set_option maxRecDepth 100000 in
theorem f11 (p q : Nat) (k src ns nm f d : ByteArray) (w : World) (hp : w.heap[p]? = some (recOf k src ns nm f d)) (hq : w.heap[q]? = some (recOf k src ns nm f d)) :
    Calls Trym.prog 11 #[.pointer (some ⟨p, 0, none⟩), .pointer (some ⟨q, 0, none⟩)] w fun e w' => e = .returned (.bool true) ∧ ∃ m, w' = w.drewN m := by
  obtain ⟨a0, a1, a2, a3, a4, a5⟩ := rec_cells hp
  obtain ⟨b0, b1, b2, b3, b4, b5⟩ := rec_cells hq
  clear hp hq
  go_enter Trym.func11, Trym.ntmps11
  go_wp2
  go_quiet (fail)
  go_wp2
  go_ret
  exact ⟨rfl, nq, rfl⟩
end Go.Proofs.Qxb6605513aMods.Pc
