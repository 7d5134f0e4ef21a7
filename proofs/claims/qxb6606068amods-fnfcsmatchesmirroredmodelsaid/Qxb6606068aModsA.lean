import Derived.Test.Qxb6606068aModsRows
import Derived.Test.Qxb6606068aModsCrc
import Derived.WalkKit
import Derived.WalkSpells
import Derived.WalkLawsBesides
import Derived.ProofKit
import Derived.Below
import Derived.Laws.BitsAllLaws
import Derived.Lib.SliceRun
namespace Go.Proofs.Qxb6606068aMods.Fc
open Go.ChangeShapes Go.WideShapes Go.ChangeAt Go.RowKit Crcp

theorem hide {p : Prop} (h : p) : Hid p := h
theorem unhide {p : Prop} (h : Hid p) : p := h

/-- a row of octets: where there is an element, the row lies in a block -/
def ByteRow (w : World) (a : Option Addr) (bs : List Nat) : Prop :=
  0 < bs.length → ∃ b off, a = some ⟨b, off, none⟩ ∧ b < w.heap.size ∧ ∀ i, i < bs.length → w.cell? ⟨b, off + i, none⟩ = some (.int .u8 ((bs.getD i 0 : Nat) : Int))

theorem crc_snoc (bs : List Nat) (j : Nat) (h : j < bs.length) : crc (bs.take (j + 1)) = upd (crc (bs.take j)) (bs.getD j 0) := by
  unfold crc
  rw [List.take_succ_eq_append_getElem h, List.foldl_append]
  simp [List.getD, h]
theorem crc_lt' (bs : List Nat) (hb : ∀ b ∈ bs, b < 256) : crc bs < 65536 := crc_lt bs _ (by decide) hb

theorem bits16 : ∀ i, i < 16 → (65535 : Nat).testBit i = true := by decide
theorem comp16 (c : Nat) (h : c < 65536) : 65535 ^^^ c = 65535 - c := by
  refine eq16 _ _ (Nat.xor_lt_two_pow (n := 16) (by decide) h) (by omega) fun i hi => ?_
  rw [Nat.testBit_xor, bits16 i hi, show 65535 - c = 2 ^ 16 - (c + 1) by omega, Nat.testBit_two_pow_sub_succ h]
  simp [hi]
theorem comp_int (c : Nat) (h : c < 65536) : bits .xor .u16 IntKind.u16.max (c : Int) = ((65535 - c : Nat) : Int) := by
  rw [show IntKind.u16.max = ((65535 : Nat) : Int) from by decide, u16_xor_nat 65535 c (by decide) h, comp16 c h]
theorem and_one (x : Nat) (h : x < 65536) : bits .and .u16 (x : Int) 1 = ((x % 2 : Nat) : Int) := by
  have := u16_and_nat x 1 h (by decide)
  rw [nat_mask1] at this
  exact this
theorem half_xor (x : Nat) (h : x < 65536) : bits .xor .u16 ((x : Int) / 2) 33800 = ((x / 2 ^^^ 33800 : Nat) : Int) := by
  have := u16_xor_nat (x / 2) 33800 (by omega) (by decide)
  rw [← this]
  rfl

set_option maxHeartbeats 800000 in
/-- 'FCS' -/
theorem f8 (a : Option Addr) (cap : Nat) (bs : List Nat) (w : World) (h : ByteRow w a bs) (hb : ∀ b ∈ bs, b < 256) (hl : bs.length ≤ 1048580) :
    Calls Trym.prog 8 #[.slice a bs.length cap] w fun e w' => e = .returned (.int .u16 ((65535 - crc bs : Nat) : Int)) ∧ w' = w := by
  go_enter Trym.func8, Trym.ntmps8
  go_wp2
  go_loop [3, 8] (fun c i => ∃ (j : Nat), j ≤ bs.length ∧ i = .int .i64 j ∧ c = .int .u16 ((crc (bs.take j) : Nat) : Int)) (fun _ i => bs.length - (intOf i).toNat)
  case atStart => exact ⟨0, Nat.zero_le _, rfl, rfl⟩
  case round =>
    obtain ⟨j, hj, rfl, rfl⟩ := hrel
    have hc : crc (bs.take j) < 65536 := crc_lt' _ (fun b hb' => hb b (List.mem_of_mem_take hb'))
    by_cases hlt : j < bs.length
    · obtain ⟨b, off, ha, hlb, hcells⟩ := h (by omega)
      have hcell := hcells j hlt
      have hbj : bs.getD j 0 < 256 := hb _ (by simp [List.getD, hlt])
      have HS := hide (crc_snoc bs j hlt)
      generalize crc (bs.take j) = c at *
      generalize bs.getD j 0 = o at *
      have hx : bits .xor .u16 (c : Int) (o : Int) = ((c ^^^ o : Nat) : Int) := u16_xor_nat c o hc (by omega)
      have hy : c ^^^ o < 65536 := Nat.xor_lt_two_pow (n := 16) hc (by omega)
      subst ha
      clear hcells h
      go_wp2
      go_loop [3, 16] (fun x t => ∃ (m : Nat), m ≤ 8 ∧ t = .int .i64 m ∧ x = .int .u16 ((stn m (c ^^^ o) : Nat) : Int)) (fun _ t => 8 - (intOf t).toNat)
      case atStart => exact ⟨0, Nat.zero_le _, rfl, rfl⟩
      case round =>
        obtain ⟨m, hm, rfl, rfl⟩ := hrel
        have hz := stn_lt m _ hy
        by_cases hm8 : m < 8
        · have HT : Hid (stn (m + 1) (c ^^^ o) = st (stn m (c ^^^ o))) := hide rfl
          generalize stn m (c ^^^ o) = z at *
          have hA := and_one z hz
          have hX := half_xor z hz
          rcases Nat.mod_two_eq_zero_or_one z with hp | hp
          · rw [hp] at hA
            go_wp2
            go_round
            case rel => exact ⟨m + 1, by omega, by go_num, by rw [unhide HT, st, if_neg (by omega)]; rfl⟩
            case measure => simp [intOf]; omega
          · rw [hp] at hA
            go_wp2
            go_round
            case rel => exact ⟨m + 1, by omega, by go_num, by rw [unhide HT, st, if_pos hp]⟩
            case measure => simp [intOf]; omega
        · have hm' : m = 8 := by omega
          subst hm'
          go_wp2
          go_round
          case rel => exact ⟨j + 1, by omega, by go_num, by rw [unhide HS]; rfl⟩
          case measure => simp [intOf]; omega
    · have hj' : bs.take j = bs := List.take_of_length_le (by omega)
      rw [hj'] at hc
      rw [hj']
      have hC := comp_int (crc bs) hc
      go_wp2
      go_ret
      exact ⟨rfl, rfl⟩
end Go.Proofs.Qxb6606068aMods.Fc
