import Derived.Test.Qxb6605513aModsC
import Derived.Lib.SliceRun
namespace Go.Proofs.Qxb6605513aMods.Pc
open Go.ChangeShapes Go.WideShapes Go.ChangeAt Go.RowKit

set_option maxHeartbeats 800000 in
set_option maxRecDepth 100000 in
theorem f9 (k src ns nm : ByteArray) (au am : Option Addr) (cu cm : Nat) (us ms : List ByteArray) (rt : Option Nat) (w : World)
    (hu : StrRow w au us) (hm : StrRow w am ms)
    (hk : k.size ≤ 1048576) (lu : us.length ≤ 65536) (lm : ms.length ≤ 65536) :
    Calls Trym.prog 9 #[.string k, .string ns, .string nm, .string src, .slice au us.length cu, .slice am ms.length cm, .map rt] w fun e w' =>
      e = .returned (.pointer (some ⟨w.heap.size + 1, 0, none⟩)) ∧ Below w.heap.size w w' ∧
      ∃ v ps, Inv w' (w.heap.size + 1) k src ns nm v ps (us.map (fun f => (f, du k f)) ++ ms.map (fun f => (f, dm k))) := by
  go_enter Trym.func9, Trym.ntmps9
  go_wp2_with fail
  refine (f12 k src ns nm au am cu cm us ms rt _ hu hm hk lu lm).mono ?_
  rintro e w' ⟨rfl, hb, hi⟩
  go_wp2
  go_ret
  exact ⟨rfl, hb, hi⟩

/-- a row of strings that came in -/
def InRow (w : World) (a : Option Addr) (ss : List ByteArray) : Prop :=
  0 < ss.length → ∃ b off, a = some ⟨b, off, none⟩ ∧ b < w.heap.size ∧ ∀ i, i < ss.length → w.cell? ⟨b, off + i, none⟩ = some (.string (ss.getD i ByteArray.empty))

theorem InRow.keep {w w' : World} {a : Option Addr} {ss : List ByteArray} (h : InRow w a ss) (hb : Below w.heap.size w w') : InRow w' a ss := fun hp => by
  obtain ⟨b, off, ha, hl, hc⟩ := h hp
  exact ⟨b, off, ha, Nat.lt_of_lt_of_le hl hb.size, fun i hi => (hb.cell (p := ⟨b, off + i, none⟩) hl).trans (hc i hi)⟩

theorem StrRow.keep {w w' : World} {a : Option Addr} {ss : List ByteArray} (h : StrRow w a ss) (hb : Below w.heap.size w w') : StrRow w' a ss := fun hp => by
  obtain ⟨b, ha, hl, hc⟩ := h hp
  exact ⟨b, ha, Nat.lt_of_lt_of_le hl hb.size, fun i hi => ⟨(hb.cell (p := ⟨b, i, none⟩) hl).trans (hc i hi).1, (hc i hi).2⟩⟩

theorem info9 : (Trym.prog.info? 9).map (fun i => (i.zero, i.size, i.bytes)) = some (some (.string ByteArray.empty), 1, 16) := by kernel_rfl

def mixed (ss : List ByteArray) (j : Nat) : List Value := (ss.take j).map Value.string ++ List.replicate (ss.length - j) (.string ByteArray.empty)

theorem mixed_set (ss : List ByteArray) (j : Nat) (h : j < ss.length) : (mixed ss j).set j (.string (ss.getD j ByteArray.empty)) = mixed ss (j + 1) := by
  unfold mixed
  have hl : ((ss.take j).map Value.string).length = j := by simp; omega
  rw [List.set_append_right _ _ (by omega), hl, Nat.sub_self, show ss.length - j = (ss.length - (j + 1)) + 1 by omega, List.replicate_succ, List.set_cons_zero, map_snoc Value.string ss ByteArray.empty j h, List.append_assoc]
  rfl
theorem mixed_at (ss : List ByteArray) (j : Nat) (h : j < ss.length) : (mixed ss j)[j]? = some (.string ByteArray.empty) := by
  unfold mixed
  have hl : ((ss.take j).map Value.string).length = j := by simp; omega
  rw [List.getElem?_append_right (by omega), hl, Nat.sub_self, show ss.length - j = (ss.length - (j + 1)) + 1 by omega, List.replicate_succ]
  rfl
theorem mixed_end (ss : List ByteArray) : mixed ss ss.length = ss.map Value.string := by simp [mixed]
theorem mixed_start (ss : List ByteArray) : mixed ss 0 = List.replicate ss.length (.string ByteArray.empty) := by simp [mixed]

set_option maxHeartbeats 800000 in
set_option maxRecDepth 100000 in
theorem f7 (a : Option Addr) (cap : Nat) (ss : List ByteArray) (w : World) (h : InRow w a ss) (hs : ∀ s ∈ ss, s.size ≤ maxLen) (hl : ss.length ≤ 65536) (hn : a = none → ss = []) :
    Calls Trym.prog 7 #[.slice a ss.length cap] w fun e w' => ∃ a' c', e = .returned (.slice a' ss.length c') ∧ StrRow w' a' ss ∧ Below w.heap.size w w' := by
  have q22 := fun (w : World) (a : Option Addr) (n c n' c' : Nat) => Lib.run_eql_slice_nil (P := Trym.prog) w 22 9 a n c n' c' Trym.underlying22
  obtain ⟨i0, hi, hz0, hz1, hz2⟩ := info_parts info9
  cases a with
  | none =>
    obtain rfl := hn rfl
    go_enter Trym.func7, Trym.ntmps7
    go_wp2
    go_ret
    exact ⟨none, ⟨0, rfl⟩, fun hp => absurd hp (by simp), Below.refl _ _⟩
  | some ad =>
    clear hn
    go_enter Trym.func7, Trym.ntmps7
    go_wp2_with (at_make; refine wpList_make_full _ rfl _ _ 22 rfl w.heap.size 9 i0 (.string ByteArray.empty) 1 Trym.underlying22 hi hz0 hz1 _ _ _ _ ss.length rfl rfl (by omega) (by omega) (by rw [hz2]; omega) (by unfold maxLen; omega) (Nat.le_refl _) ?_; intro w1 hown hgrow)
    have hown0 : w1.ownsRow w.heap.size 9 1 (.slice (some ⟨w.heap.size, 0, none⟩) ss.length ss.length) ss.length (mixed ss 0) := by
      rw [mixed_start]
      have e : (madeCells (Value.cells (.string ByteArray.empty)) (ss.length * 1)).toList = List.replicate ss.length (.string ByteArray.empty) := by
        rw [Nat.mul_one]; exact toList_madeCells_one _ _
      rw [← e]; exact hown
    have hb0 : Below w.heap.size w w1 := (Below.refl _ _).grown hgrow (Nat.le_refl _) (fun k h => by cases h)
    clear hown hgrow
    go_loopw [4] (fun i wr => ∃ j : Nat, j ≤ ss.length ∧ i = .int .i64 j ∧ wr.ownsRow w.heap.size 9 1 (.slice (some ⟨w.heap.size, 0, none⟩) ss.length ss.length) ss.length (mixed ss j) ∧ Below w.heap.size w wr) (fun i _ => ss.length - (intOf i).toNat)
    case atStart => exact ⟨0, Nat.zero_le _, rfl, hown0, hb0⟩
    case round =>
      clear hown0 hb0
      obtain ⟨j, hj, rfl, hown, hbel⟩ := hrel
      by_cases hlt : j < ss.length
      · obtain ⟨b, off, ha, hlb, hc⟩ := h (by omega)
        injection ha with ha
        have hcell : wr.cell? ⟨b, off + j, none⟩ = some (.string (ss.getD j ByteArray.empty)) := (hbel.cell (p := ⟨b, off + j, none⟩) hlb).trans (hc j hlt)
        have htgt : wr.cell? ⟨w.heap.size, j, none⟩ = some (.string ByteArray.empty) := by rw [hown.cellAt j (by omega)]; exact mixed_at ss j hlt
        have hfz := hown.frozenAt j
        have hst := (hown.stored j (.string (ss.getD j ByteArray.empty))).1
        rw [mixed_set ss j hlt] at hst
        obtain ⟨f, hf⟩ : ∃ f, f = ss.getD j ByteArray.empty := ⟨_, rfl⟩
        rw [← hf] at hcell hst
        clear hf hc hown
        subst ha
        go_wp2
        go_roundw
        case rel => exact ⟨j + 1, by omega, by go_num, hst, hbel.setCell (Nat.le_refl _) _⟩
        case measure => simp [intOf]; omega
      · have hj' : j = ss.length := by omega
        subst hj'
        rw [mixed_end] at hown
        go_wp2
        go_ret
        refine ⟨some ⟨w.heap.size, 0, none⟩, ss.length, rfl, fun hp => ⟨w.heap.size, rfl, ?_, fun i hi => ⟨?_, ?_⟩⟩, hbel⟩
        · exact (hown.lt w.heap.size rfl).2
        · rw [hown.cellAt i (by omega)]; simp [List.getD, hi]
        · exact hs _ (by simp [List.getD, hi])
end Go.Proofs.Qxb6605513aMods.Pc
