import Derived.Test.Qxb6606068aModsA
namespace Go.Proofs.Qxb6606068aMods.Fc
open Go.ChangeShapes Go.WideShapes Go.ChangeAt Go.RowKit Crcp

theorem ByteRow.keep {w w' : World} {a : Option Addr} {bs : List Nat} (h : ByteRow w a bs) (hb : Below w.heap.size w w') : ByteRow w' a bs := fun hp => by
  obtain ⟨b, off, ha, hl, hc⟩ := h hp
  exact ⟨b, off, ha, Nat.lt_of_lt_of_le hl hb.size, fun i hi => (hb.cell (p := ⟨b, off + i, none⟩) hl).trans (hc i hi)⟩

theorem info5 : (Trym.prog.info? 5).map (fun i => (i.zero, i.size, i.bytes)) = some (some (.int .u8 0), 1, 1) := by kernel_rfl

def B8 (b : Nat) : Value := .int .u8 ((b : Nat) : Int)
/-- the first j octets, then noughts, N in all -/
def mix (bs : List Nat) (j N : Nat) : List Value := (bs.take j).map B8 ++ List.replicate (N - j) (B8 0)

theorem mix_len (bs : List Nat) (j : Nat) (h : j ≤ bs.length) : ((bs.take j).map B8).length = j := by simp; omega
theorem mix_set (bs : List Nat) (j N : Nat) (h : j < bs.length) (hN : bs.length ≤ N) : (mix bs j N).set j (B8 (bs.getD j 0)) = mix bs (j + 1) N := by
  unfold mix
  have hl := mix_len bs j (by omega)
  rw [List.set_append_right _ _ (by omega), hl, Nat.sub_self, show N - j = (N - (j + 1)) + 1 by omega, List.replicate_succ, List.set_cons_zero, List.take_succ_eq_append_getElem h, List.map_append, List.append_assoc]
  simp only [List.getD, List.getElem?_eq_getElem h, List.map_cons, List.map_nil, Option.getD_some]
  rfl
theorem mix_at (bs : List Nat) (j N : Nat) (h : j ≤ bs.length) (hN : j < N) : (mix bs j N)[j]? = some (B8 0) := by
  unfold mix
  have hl := mix_len bs j h
  rw [List.getElem?_append_right (by omega), hl, Nat.sub_self, show N - j = (N - (j + 1)) + 1 by omega, List.replicate_succ]
  rfl
theorem mix_start (bs : List Nat) (N : Nat) : mix bs 0 N = List.replicate N (B8 0) := by simp [mix]
theorem mix_end (bs : List Nat) : mix bs bs.length bs.length = bs.map B8 := by simp [mix]
theorem mix_two (bs : List Nat) (x y : Nat) : ((mix bs bs.length (bs.length + 2)).set bs.length (B8 x)).set (bs.length + 1) (B8 y) = (bs ++ [x, y]).map B8 := by
  unfold mix
  have hl : ((bs.take bs.length).map B8).length = bs.length := mix_len bs _ (Nat.le_refl _)
  rw [List.set_append_right _ _ (by omega), hl, Nat.sub_self, List.set_append_right _ _ (by omega), hl, show bs.length + 2 - bs.length = 2 by omega, show bs.length + 1 - bs.length = 1 by omega]
  simp
theorem mix_two_at (bs : List Nat) (x : Nat) : ((mix bs bs.length (bs.length + 2)).set bs.length (B8 x))[bs.length + 1]? = some (B8 0) := by
  unfold mix
  have hl : ((bs.take bs.length).map B8).length = bs.length := mix_len bs _ (Nat.le_refl _)
  rw [List.set_append_right _ _ (by omega), hl, Nat.sub_self, List.getElem?_append_right (by omega), hl, show bs.length + 2 - bs.length = 2 by omega, show bs.length + 1 - bs.length = 1 by omega]
  simp

/-- a row of octets out of a row that is owned -/
theorem row_of_own {w : World} {base g n cap : Nat} {bs : List Nat} (h : w.ownsRow base 5 1 (.slice (some ⟨g, 0, none⟩) n cap) n (bs.map B8)) (hn : n = bs.length) : ByteRow w (some ⟨g, 0, none⟩) bs := fun _ => by
  refine ⟨g, 0, rfl, (h.lt g rfl).2, fun i hi => ?_⟩
  rw [Nat.zero_add, h.cellAt i (by omega)]
  simp [List.getD, hi, B8]

def aBool (e : Ending) : Prop := ∃ b, e = .returned (.bool b)

set_option maxHeartbeats 400000 in
theorem f10 (a : Option Addr) (n cap : Nat) (w : World) (hl : n ≤ 9223372036854775807) :
    Calls Trym.prog 10 #[.slice a n cap] w fun e w' => w' = w ∧ aBool e := by
  go_enter Trym.func10, Trym.ntmps10
  go_wp2
  all_goals (go_ret; exact ⟨rfl, _, rfl⟩)
set_option maxHeartbeats 400000 in
theorem f6 (a : Option Addr) (n cap : Nat) (w : World) (hl : n ≤ 9223372036854775807) :
    Calls Trym.prog 6 #[.slice a n cap] w fun e w' => w' = w ∧ aBool e := by
  go_enter Trym.func6, Trym.ntmps6
  go_wp2
  all_goals (go_ret; exact ⟨rfl, _, rfl⟩)

set_option maxHeartbeats 800000 in
set_option maxRecDepth 100000 in
/-- 'zCopyBytes' -/
theorem f7 (a : Option Addr) (cap : Nat) (bs : List Nat) (w : World) (h : ByteRow w a bs) (hl : bs.length ≤ 1048576) (hn : a = none → bs = []) :
    Calls Trym.prog 7 #[.slice a bs.length cap] w fun e w' => ∃ a' c', e = .returned (.slice a' bs.length c') ∧ ByteRow w' a' bs ∧ Below w.heap.size w w' := by
  have q22 := fun (w : World) (a : Option Addr) (n c n' c' : Nat) => Lib.run_eql_slice_nil (P := Trym.prog) w 22 5 a n c n' c' Trym.underlying22
  obtain ⟨i0, hi, hz0, hz1, hz2⟩ := info_parts info5
  cases a with
  | none =>
    obtain rfl := hn rfl
    go_enter Trym.func7, Trym.ntmps7
    go_wp2
    go_ret
    exact ⟨none, ⟨0, rfl⟩, fun hp => absurd hp (by simp), Below.refl _ _⟩
  | some ad =>
    clear hn
    go_enter Trym.func7, Trym.ntmps7
    go_wp2_with (at_make; refine wpList_make_full _ rfl _ _ 22 rfl w.heap.size 5 i0 (.int .u8 0) 1 Trym.underlying22 hi hz0 hz1 _ _ _ _ bs.length rfl rfl (by omega) (by omega) (by rw [hz2]; omega) (by unfold maxLen; omega) (Nat.le_refl _) ?_; intro w1 hown hgrow)
    have hown0 : w1.ownsRow w.heap.size 5 1 (.slice (some ⟨w.heap.size, 0, none⟩) bs.length bs.length) bs.length (mix bs 0 bs.length) := by
      rw [mix_start]
      have e : (madeCells (Value.cells (.int .u8 0)) (bs.length * 1)).toList = List.replicate bs.length (B8 0) := by
        rw [Nat.mul_one]; exact toList_madeCells_one _ _
      rw [← e]; exact hown
    have hb0 : Below w.heap.size w w1 := (Below.refl _ _).grown hgrow (Nat.le_refl _) (fun k h => by cases h)
    clear hown hgrow
    go_loopw [4] (fun i wr => ∃ j : Nat, j ≤ bs.length ∧ i = .int .i64 j ∧ wr.ownsRow w.heap.size 5 1 (.slice (some ⟨w.heap.size, 0, none⟩) bs.length bs.length) bs.length (mix bs j bs.length) ∧ Below w.heap.size w wr) (fun i _ => bs.length - (intOf i).toNat)
    case atStart => exact ⟨0, Nat.zero_le _, rfl, hown0, hb0⟩
    case round =>
      clear hown0 hb0
      obtain ⟨j, hj, rfl, hown, hbel⟩ := hrel
      by_cases hlt : j < bs.length
      · obtain ⟨b, off, ha, hlb, hc⟩ := h (by omega)
        injection ha with ha
        have hcell : wr.cell? ⟨b, off + j, none⟩ = some (.int .u8 ((bs.getD j 0 : Nat) : Int)) := (hbel.cell (p := ⟨b, off + j, none⟩) hlb).trans (hc j hlt)
        have htgt : wr.cell? ⟨w.heap.size, j, none⟩ = some (.int .u8 0) := by rw [hown.cellAt j (by omega)]; exact mix_at bs j _ (by omega) hlt
        have hfz := hown.frozenAt j
        have hst := (hown.stored j (B8 (bs.getD j 0))).1
        rw [mix_set bs j _ hlt (Nat.le_refl _)] at hst
        unfold B8 at hst
        generalize bs.getD j 0 = f at hcell hst
        clear hc hown
        subst ha
        go_wp2
        go_roundw
        case rel => exact ⟨j + 1, by omega, by go_num, hst, hbel.setCell (Nat.le_refl _) _⟩
        case measure => simp [intOf]; omega
      · have hj' : j = bs.length := by omega
        subst hj'
        rw [mix_end] at hown
        go_wp2
        go_ret
        exact ⟨some ⟨w.heap.size, 0, none⟩, bs.length, rfl, row_of_own hown rfl, hbel⟩
end Go.Proofs.Qxb6606068aMods.Fc
