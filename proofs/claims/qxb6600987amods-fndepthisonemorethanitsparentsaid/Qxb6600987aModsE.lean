import Derived.Test.Qxb6600987aModsD
namespace Go.Proofs.Qxb6600987aMods.Pt
open Go.ChangeShapes Go.WideShapes Go.ChangeAt Go.RowKit Go.Maps Dp

theorem lk_wf (l m : List Int) (hw : ∀ x ∈ m, (Lit.int .i64 x).wf = true) (x : Int) : (Lit.int .i64 ((lk l m x).getD 0)).wf = true := by
  unfold lk
  cases idx l x with
  | none => rfl
  | some i =>
    show (Lit.int .i64 (m.getD i 0)).wf = true
    by_cases hi : i < m.length
    · exact hw _ (by simp [List.getD, hi])
    · rw [show m.getD i 0 = 0 by simp [List.getD, Nat.not_lt.1 hi]]; rfl

/-- the local 'st' -/
def statObj (c : Int) : Obj := .cells #[.int .u8 0, .int .i64 c, .int .i64 0, .int .i64 0, .int .i64 0, .int .u64 0] 46
theorem statObj_cells {w : World} {b : Nat} {c : Int} (h : w.heap[b]? = some (statObj c)) :
    w.cell? ⟨b, 0, none⟩ = some (.int .u8 0) ∧ w.cell? ⟨b, 1, none⟩ = some (.int .i64 c) ∧ w.cell? ⟨b, 2, none⟩ = some (.int .i64 0) ∧ w.cell? ⟨b, 3, none⟩ = some (.int .i64 0) ∧ w.cell? ⟨b, 4, none⟩ = some (.int .i64 0) ∧ w.cell? ⟨b, 5, none⟩ = some (.int .u64 0) :=
  ⟨cell_of_row _ _ 0 _ 46 _ h, cell_of_row _ _ 1 _ 46 _ h, cell_of_row _ _ 2 _ 46 _ h, cell_of_row _ _ 3 _ 46 _ h, cell_of_row _ _ 4 _ 46 _ h, cell_of_row _ _ 5 _ 46 _ h⟩

set_option maxHeartbeats 1600000 in
set_option maxRecDepth 100000 in
/-- 'depth' -/
theorem f20 (B n : Nat) (D : DataW Unit) (l m : List Int) (x0 : Int) (w : World) (hown : w.ownsMap Trym.prog 3 statElem B n D) (hlive : Live D l m l.length) (hl : l.length ≤ 4096)
    (hwm : ∀ x ∈ m, (Lit.int .i64 x).wf = true) (hw0 : (Lit.int .i64 x0).wf = true) :
    Calls Trym.prog 20 #[.map (some B), .int .i64 x0] w fun e w' => e = .returned (.int .i64 ((dep (lk l m) l.length x0 : Int) - 1)) ∧ Below w.heap.size w w' := by
  have HSZ := hide hlive.size
  obtain ⟨hh0, ha0⟩ := hlive.whole x0
  have hlB := hown.lt
  go_enter Trym.func20, Trym.ntmps20
  go_wp2_with (at_lookup; refine wpList_lookup_stat _ rfl _ _ rfl B n D rfl hown x0 rfl hw0 _ hh0 _ ha0 ?_)
  go_loopw [5, 6, 7] (fun c st ok wr => ∃ (k b : Nat) (x : Int), k ≤ l.length ∧ c = .int .i64 k ∧ st = .pointer (some ⟨b, 0, none⟩) ∧ ok = .bool (lk l m x).isSome ∧
      (Lit.int .i64 x).wf = true ∧ dep (lk l m) l.length x0 = k + dep (lk l m) (l.length - k) x ∧ w.heap.size ≤ b ∧ wr.heap[b]? = some (statObj ((lk l m x).getD 0)) ∧
      wr.ownsMap Trym.prog 3 statElem B n D ∧ Below w.heap.size w wr) (fun c _ _ _ => l.length - (intOf c).toNat)
  case atStart => exact ⟨0, w.heap.size, x0, Nat.zero_le _, rfl, rfl, rfl, hw0, by simp, Nat.le_refl _, heap_alloc_new _ _, hown.alloc _, (Below.refl _ _).alloc (Nat.le_refl _) _⟩
  case round =>
    clear hh0 ha0
    obtain ⟨k, b, x, hk, rfl, rfl, rfl, hwx, hdep, hbB, hst, hownr, hbel⟩ := hrel
    have HD := hide hdep
    obtain ⟨s0, s1, s2, s3, s4, s5⟩ := statObj_cells hst
    clear hdep hst
    cases hx : lk l m x with
    | none =>
      have hfin : dep (lk l m) l.length x0 = k := by rw [unhide HD, dep_none _ _ _ hx]; rfl
      have HF := hide hfin
      clear hfin
      rw [hx] at s1
      go_wp2
      go_ret
      exact ⟨by rw [unhide HF]; rfl, hbel⟩
    | some y =>
      rw [hx] at s1
      have hwy : (Lit.int .i64 y).wf = true := by have := lk_wf l m hwm x; rw [hx] at this; exact this
      obtain ⟨hhy, hay⟩ := hlive.whole y
      have hlen : (Builtin.len_ #[38] 3 #[.map (some B)]).run Trym.prog wr = .ok (.int .i64 (l.length : Int)) wr := by
        have := hownr.len Trym.underlying38 3
        rw [unhide HSZ] at this
        exact this
      have s1' : wr.cell? ⟨b, 1, none⟩ = some (.int .i64 y) := s1
      clear s1
      by_cases hkn : k < l.length
      · have hnext : dep (lk l m) l.length x0 = (k + 1) + dep (lk l m) (l.length - (k + 1)) y := by
          rw [unhide HD, show l.length - k = (l.length - (k + 1)) + 1 by omega, dep_some _ _ _ _ hx]; omega
        have HX := hide hnext
        clear hnext hx
        go_wp2_with (at_lookup; refine wpList_lookup_stat _ rfl _ _ rfl B n D rfl (hownr.alloc _) y rfl hwy _ hhy _ hay ?_)
        go_roundw
        case rel => exact ⟨k + 1, wr.heap.size, y, by omega, by go_num, rfl, rfl, hwy, unhide HX, hbel.size, heap_alloc_new _ _, hownr.alloc _, hbel.alloc hbel.size _⟩
        case measure => simp [intOf]; omega
      · have hfin : dep (lk l m) l.length x0 = k := by
          rw [unhide HD, show l.length - k = 0 by omega]; rfl
        have HF := hide hfin
        clear hfin hx
        go_wp2
        go_ret
        exact ⟨by rw [unhide HF]; rfl, hbel⟩
end Go.Proofs.Qxb6600987aMods.Pt
