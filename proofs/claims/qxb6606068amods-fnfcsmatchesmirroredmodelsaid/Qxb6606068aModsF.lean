import Derived.Test.Qxb6606068aModsE
namespace Go.Proofs.Qxb6606068aMods.Fc
open Go.ChangeShapes Go.WideShapes Go.ChangeAt Go.RowKit Crcp

def digits : List Nat := [49, 50, 51, 52, 53, 54, 55, 56, 57]
theorem digits_row (w : World) : ByteRow (w.alloc (.cells #[.int .u8 49, .int .u8 50, .int .u8 51, .int .u8 52, .int .u8 53, .int .u8 54, .int .u8 55, .int .u8 56, .int .u8 57] 5)) (some ⟨w.heap.size, 0, none⟩) digits := fun _ => by
  refine ⟨w.heap.size, 0, rfl, by simp, fun i hi => ?_⟩
  rw [Nat.zero_add, cell_of_row _ _ i _ 5 _ (heap_alloc_new w _)]
  match i, hi with
  | 0, _ => rfl
  | 1, _ => rfl
  | 2, _ => rfl
  | 3, _ => rfl
  | 4, _ => rfl
  | 5, _ => rfl
  | 6, _ => rfl
  | 7, _ => rfl
  | 8, _ => rfl
theorem digits_fcs : 65535 - crc digits = 36974 := by
  rw [show crc digits = 65535 - 36974 from check9]

set_option maxHeartbeats 1600000 in
set_option maxRecDepth 100000 in
theorem walk3in (a : Option Addr) (cap : Nat) (bs : List Nat) (w : World) (h : ByteRow w a bs) (hb : ∀ b ∈ bs, b < 256) (hl : bs.length ≤ 1048576) (hn : a = none → bs = []) :
    Calls Trym.prog 3 #[.slice a bs.length cap] w fun e w' => e = .returned (.bool true) ∧ Below w.heap.size w w' := by
  go_enter Trym.func3, Trym.ntmps3
  go_wp2_with fail
  refine (f6 a bs.length cap _ (by omega)).mono ?_
  rintro e w' ⟨hw, b, rfl⟩
  rw [hw]
  clear hw w'
  cases b with
  | false =>
    go_wp2
    go_ret
    exact ⟨rfl, Below.refl _ _⟩
  | true =>
    go_wp2_with fail
    refine (f7 a cap bs _ h hl hn).mono ?_
    rintro e w1 ⟨a1, c1, rfl, r1, hb1⟩
    have hs1 := hb1.size
    have hd := digits_row w1
    have r2 : ByteRow (w1.alloc (.cells #[.int .u8 49, .int .u8 50, .int .u8 51, .int .u8 52, .int .u8 53, .int .u8 54, .int .u8 55, .int .u8 56, .int .u8 57] 5)) a1 bs := r1.keep ((Below.refl _ _).alloc (Nat.le_refl _) _)
    go_wp2_with fail
    refine (f8 (some ⟨w1.heap.size, 0, none⟩) 9 digits _ hd (by decide) (by decide)).mono ?_
    rintro e w' ⟨rfl, hw⟩
    rw [hw, digits_fcs]
    clear hw w'
    go_wp2_with fail
    refine (f8 a1 c1 bs _ r2 hb (by omega)).mono ?_
    rintro e w' ⟨rfl, hw⟩
    rw [hw]
    clear hw w'
    go_wp2_with fail
    refine (f9 a1 c1 bs _ r2 hb (by omega)).mono ?_
    rintro e w' ⟨rfl, hw⟩
    rw [hw]
    clear hw w'
    go_wp2
    go_ret
    exact ⟨by simp, hb1.trans (((Below.refl _ _).alloc (Nat.le_refl _) _).mono hs1)⟩

set_option maxHeartbeats 800000 in
theorem walk3out (a : Option Addr) (n cap : Nat) (w : World) (hl : n ≤ 9223372036854775807) (ho : ¬ n ≤ 1048576) :
    Calls Trym.prog 3 #[.slice a n cap] w fun e w' => e = .returned (.bool true) ∧ Below w.heap.size w w' := by
  go_enter Trym.func3, Trym.ntmps3
  go_wp2_with fail
  refine (f6 a n cap _ hl).mono ?_
  rintro e w' ⟨hw, b, rfl⟩
  rw [hw]
  clear hw w'
  cases b with
  | false =>
    go_wp2
    go_ret
    exact ⟨rfl, Below.refl _ _⟩
  | true =>
    go_wp2
    go_ret
    exact ⟨rfl, Below.refl _ _⟩
end Go.Proofs.Qxb6606068aMods.Fc
