import Derived.Test.Qxb6606068aModsB
namespace Go.Proofs.Qxb6606068aMods.Fc
open Go.ChangeShapes Go.WideShapes Go.ChangeAt Go.RowKit Crcp

theorem crc_two (bs : List Nat) (h : ∀ b ∈ bs, b < 256) : 65535 - crc (bs ++ [(65535 - crc bs) % 256, (65535 - crc bs) / 256]) = 3911 := by
  have hc := crc_lt' bs h
  have e : crc (bs ++ [(65535 - crc bs) % 256, (65535 - crc bs) / 256]) = upd (upd (crc bs) ((65535 - crc bs) % 256)) ((65535 - crc bs) / 256) := by
    show List.foldl upd 65535 _ = _
    rw [List.foldl_append]; rfl
  rw [e, residue _ hc]

theorem mix_next (bs : List Nat) : (mix bs bs.length (bs.length + 2))[bs.length + 1]? = some (B8 0) := by
  unfold mix
  have hl : ((bs.take bs.length).map B8).length = bs.length := mix_len bs _ (Nat.le_refl _)
  rw [List.getElem?_append_right (by omega), hl, show bs.length + 2 - bs.length = 2 by omega, show bs.length + 1 - bs.length = 1 by omega]
  rfl

set_option maxHeartbeats 1600000 in
set_option maxRecDepth 100000 in
theorem walk4in (a : Option Addr) (cap : Nat) (bs : List Nat) (w : World) (h : ByteRow w a bs) (hb : ∀ b ∈ bs, b < 256) (hl : bs.length ≤ 1048576) (hn : a = none → bs = []) :
    Calls Trym.prog 4 #[.slice a bs.length cap] w fun e w' => e = .returned (.bool true) ∧ Below w.heap.size w w' := by
  obtain ⟨i0, hi, hz0, hz1, hz2⟩ := info_parts info5
  go_enter Trym.func4, Trym.ntmps4
  go_wp2_with fail
  refine (f10 a bs.length cap _ (by omega)).mono ?_
  rintro e w' ⟨hw, b, rfl⟩
  rw [hw]
  clear hw w'
  cases b with
  | false =>
    go_wp2
    go_ret
    exact ⟨rfl, Below.refl _ _⟩
  | true =>
    go_wp2_with fail
    refine (f7 a cap bs _ h hl hn).mono ?_
    rintro e w1 ⟨a1, c1, rfl, r1, hb1⟩
    have hs1 := hb1.size
    go_wp2_with fail
    refine (f8 a1 c1 bs _ r1 hb (by omega)).mono ?_
    rintro e w' ⟨rfl, hw⟩
    rw [hw]
    clear hw w'
    have hF : 65535 - crc bs < 65536 := by omega
    have HR := hide (crc_two bs hb)
    generalize 65535 - crc bs = F at *
    go_wp2_with (at_make; refine wpList_make_full _ rfl _ _ 22 rfl w1.heap.size 5 i0 (.int .u8 0) 1 Trym.underlying22 hi hz0 hz1 _ _ _ _ (bs.length + 2) rfl rfl (by omega) (by omega) (by rw [hz2]; omega) (by unfold maxLen; omega) (Nat.le_refl _) ?_; intro w2 hown hgrow)
    have hown0 : w2.ownsRow w1.heap.size 5 1 (.slice (some ⟨w1.heap.size, 0, none⟩) (bs.length + 2) (bs.length + 2)) (bs.length + 2) (mix bs 0 (bs.length + 2)) := by
      rw [mix_start]
      have e : (madeCells (Value.cells (.int .u8 0)) ((bs.length + 2) * 1)).toList = List.replicate (bs.length + 2) (B8 0) := by
        rw [Nat.mul_one]; exact toList_madeCells_one _ _
      rw [← e]; exact hown
    have hb2 : Below w1.heap.size w1 w2 := (Below.refl _ _).grown hgrow (Nat.le_refl _) (fun k h => by cases h)
    clear hown hgrow
    go_loopw [6] (fun i wr => ∃ j : Nat, j ≤ bs.length ∧ i = .int .i64 j ∧ wr.ownsRow w1.heap.size 5 1 (.slice (some ⟨w1.heap.size, 0, none⟩) (bs.length + 2) (bs.length + 2)) (bs.length + 2) (mix bs j (bs.length + 2)) ∧ Below w1.heap.size w1 wr) (fun i _ => bs.length - (intOf i).toNat)
    case atStart => exact ⟨0, Nat.zero_le _, rfl, hown0, hb2⟩
    case round =>
      clear hown0 hb2
      obtain ⟨j, hj, rfl, hown, hbel⟩ := hrel
      by_cases hlt : j < bs.length
      · obtain ⟨b, off, ha, hlb, hc⟩ := r1 (by omega)
        have hcell : wr.cell? ⟨b, off + j, none⟩ = some (.int .u8 ((bs.getD j 0 : Nat) : Int)) := (hbel.cell (p := ⟨b, off + j, none⟩) hlb).trans (hc j hlt)
        have htgt : wr.cell? ⟨w1.heap.size, j, none⟩ = some (.int .u8 0) := by rw [hown.cellAt j (by omega)]; exact mix_at bs j _ (by omega) (by omega)
        have hfz := hown.frozenAt j
        have hst := (hown.stored j (B8 (bs.getD j 0))).1
        rw [mix_set bs j _ hlt (by omega)] at hst
        unfold B8 at hst
        generalize bs.getD j 0 = f at hcell hst
        clear hc hown
        subst ha
        go_wp2
        go_roundw
        case rel => exact ⟨j + 1, by omega, by go_num, hst, hbel.setCell (Nat.le_refl _) _⟩
        case measure => simp [intOf]; omega
      · have hj' : j = bs.length := by omega
        subst hj'
        have t1 : wr.cell? ⟨w1.heap.size, bs.length, none⟩ = some (.int .u8 0) := by rw [hown.cellAt _ (by omega)]; exact mix_at bs _ _ (by omega) (by omega)
        have t2 : wr.cell? ⟨w1.heap.size, bs.length + 1, none⟩ = some (.int .u8 0) := by rw [hown.cellAt _ (by omega)]; exact mix_next bs
        have z1 := hown.frozenAt bs.length
        have z2 := hown.frozenAt (bs.length + 1)
        have o2 := ((hown.stored bs.length (B8 (F % 256))).1.stored (bs.length + 1) (B8 (F / 256))).1
        rw [mix_two, show B8 (F % 256) = .int .u8 ((F : Int) % 256) from rfl, show B8 (F / 256) = .int .u8 ((F : Int) / 256) from rfl] at o2
        have hlt2 : ∀ b ∈ bs ++ [F % 256, F / 256], b < 256 := by
          intro b hb'
          rcases List.mem_append.1 hb' with hb' | hb'
          · exact hb b hb'
          · simp at hb'; omega
        have hlen : (bs ++ [F % 256, F / 256]).length = bs.length + 2 := by simp
        have hr := row_of_own o2 hlen.symm
        have HL := hide hlen
        have HO := hide hlt2
        clear hown o2 hlen hlt2
        go_wp2_with fail
        rw [← unhide HL]
        refine (f8 _ _ (bs ++ [F % 256, F / 256]) _ hr (unhide HO) (by rw [unhide HL]; omega)).mono ?_
        rintro e w' ⟨rfl, hw⟩
        rw [hw, unhide HR]
        clear hw w'
        go_wp2
        go_ret
        exact ⟨rfl, hb1.trans ((((hbel.setCell (Nat.le_refl _) _).setCell (Nat.le_refl _) _)).mono hs1)⟩

set_option maxHeartbeats 800000 in
theorem walk4out (a : Option Addr) (n cap : Nat) (w : World) (hl : n ≤ 9223372036854775807) (ho : ¬ n ≤ 1048576) :
    Calls Trym.prog 4 #[.slice a n cap] w fun e w' => e = .returned (.bool true) ∧ Below w.heap.size w w' := by
  go_enter Trym.func4, Trym.ntmps4
  go_wp2_with fail
  refine (f10 a n cap _ hl).mono ?_
  rintro e w' ⟨hw, b, rfl⟩
  rw [hw]
  clear hw w'
  cases b with
  | false =>
    go_wp2
    go_ret
    exact ⟨rfl, Below.refl _ _⟩
  | true =>
    go_wp2
    go_ret
    exact ⟨rfl, Below.refl _ _⟩
end Go.Proofs.Qxb6606068aMods.Fc
