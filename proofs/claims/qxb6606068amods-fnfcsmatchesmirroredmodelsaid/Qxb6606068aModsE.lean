import Derived.Test.Qxb6606068aModsB
namespace Go.Proofs.Qxb6606068aMods.Fc
open Go.ChangeShapes Go.WideShapes Go.ChangeAt Go.RowKit Crcp

theorem pow8 (m : Nat) (h : m < 8) : (2 : Int) ^ m % 256 = ((2 ^ m : Nat) : Int) := by
  have : 2 ^ m < 256 := Nat.pow_lt_pow_right (n := 8) (by decide) h
  rw [show (2 : Int) ^ m % 256 = ((2 ^ m : Nat) : Int) % 256 from by simp]
  generalize (2 ^ m : Nat) = p at *
  omega
theorem bit8 (b m : Nat) (hb : b < 256) (h : m < 8) : bits .and .u8 (b : Int) ((2 : Int) ^ m % 256) = ((b / 2 ^ m % 2 * 2 ^ m : Nat) : Int) := by
  rw [pow8 m h, u8_and_nat b (2 ^ m) hb (Nat.pow_lt_pow_right (n := 8) (by decide) h), nat_bit]
theorem yes8 (b m : Nat) (hb : b < 256) (h : m < 8) (ht : (bits .and .u8 (b : Int) ((2 : Int) ^ m % 256) != 0) = true) :
    Value.int .u8 (bits .or .u8 ((rv 8 m b : Nat) : Int) ((2 : Int) ^ (7 - m) % 256)) = .int .u8 ((rv 8 (m + 1) b : Nat) : Int) := by
  rw [bit8 b m hb h, bne_iff_ne] at ht
  have hp : b / 2 ^ m % 2 = 1 := by
    rcases Nat.mod_two_eq_zero_or_one (b / 2 ^ m) with e | e
    · rw [e] at ht; simp at ht
    · exact e
  rw [pow8 (7 - m) (by omega), u8_or_nat _ _ (rv_lt 8 m b (by omega)) (Nat.pow_lt_pow_right (n := 8) (by decide) (by omega))]
  have e : rv 8 (m + 1) b = rv 8 m b ||| 2 ^ (8 - 1 - m) := by rw [rv, if_pos hp]
  rw [e]
theorem no8 (b m : Nat) (hb : b < 256) (h : m < 8) (ht : (bits .and .u8 (b : Int) ((2 : Int) ^ m % 256) != 0) = false) :
    Value.int .u8 ((rv 8 m b : Nat) : Int) = .int .u8 ((rv 8 (m + 1) b : Nat) : Int) := by
  rw [bit8 b m hb h, bne_eq_false_iff_eq] at ht
  have hp : ¬ b / 2 ^ m % 2 = 1 := by
    intro e
    rw [e] at ht
    have := Nat.two_pow_pos m
    omega
  have e : rv 8 (m + 1) b = rv 8 m b := by rw [rv, if_neg hp]
  rw [e]

set_option maxHeartbeats 800000 in
theorem f12 (b : Nat) (w : World) (h : b < 256) :
    Calls Trym.prog 12 #[.int .u8 (b : Int)] w fun e w' => e = .returned (.int .u8 ((rv 8 8 b : Nat) : Int)) ∧ w' = w := by
  go_enter Trym.func12, Trym.ntmps12
  go_wp2
  go_loop [3, 4] (fun r i => ∃ (m : Nat), m ≤ 8 ∧ i = .int .i64 m ∧ r = .int .u8 ((rv 8 m b : Nat) : Int)) (fun _ i => 8 - (intOf i).toNat)
  case atStart => exact ⟨0, Nat.zero_le _, rfl, rfl⟩
  case round =>
    obtain ⟨m, hm, rfl, rfl⟩ := hrel
    by_cases hm8 : m < 8
    · cases ht : (bits .and .u8 (b : Int) ((2 : Int) ^ m % 256) != 0) with
      | true =>
        have HY := hide (yes8 b m h hm8 ht)
        go_wp2
        go_round
        case rel => exact ⟨m + 1, by omega, by go_num, unhide HY⟩
        case measure => simp [intOf]; omega
      | false =>
        have HY := hide (no8 b m h hm8 ht)
        go_wp2
        go_round
        case rel => exact ⟨m + 1, by omega, by go_num, unhide HY⟩
        case measure => simp [intOf]; omega
    · have hm' : m = 8 := by omega
      subst hm'
      go_wp2
      go_ret
      exact ⟨rfl, rfl⟩

theorem pow16 (m : Nat) (h : m < 16) : IntKind.u16.wrap ((2 : Int) ^ m) = ((2 ^ m : Nat) : Int) := by
  have : 2 ^ m < 65536 := Nat.pow_lt_pow_right (n := 16) (by decide) h
  rw [show IntKind.u16.wrap ((2 : Int) ^ m) = ((2 ^ m : Nat) : Int) % 65536 from by rw [IntKind.wrap_u16]; simp]
  generalize (2 ^ m : Nat) = p at *
  omega
theorem bit16 (b m : Nat) (hb : b < 65536) (h : m < 16) : bits .and .u16 (b : Int) (IntKind.u16.wrap ((2 : Int) ^ m)) = ((b / 2 ^ m % 2 * 2 ^ m : Nat) : Int) := by
  rw [pow16 m h, u16_and_nat b (2 ^ m) hb (Nat.pow_lt_pow_right (n := 16) (by decide) h), nat_bit]
theorem yes16 (b m : Nat) (hb : b < 65536) (h : m < 16) (ht : (bits .and .u16 (b : Int) (IntKind.u16.wrap ((2 : Int) ^ m)) != 0) = true) :
    Value.int .u16 (bits .or .u16 ((rv 16 m b : Nat) : Int) (IntKind.u16.wrap ((2 : Int) ^ (15 - m)))) = .int .u16 ((rv 16 (m + 1) b : Nat) : Int) := by
  rw [bit16 b m hb h, bne_iff_ne] at ht
  have hp : b / 2 ^ m % 2 = 1 := by
    rcases Nat.mod_two_eq_zero_or_one (b / 2 ^ m) with e | e
    · rw [e] at ht; simp at ht
    · exact e
  rw [pow16 (15 - m) (by omega), u16_or_nat _ _ (rv_lt 16 m b (by omega)) (Nat.pow_lt_pow_right (n := 16) (by decide) (by omega))]
  have e : rv 16 (m + 1) b = rv 16 m b ||| 2 ^ (16 - 1 - m) := by rw [rv, if_pos hp]
  rw [e]
theorem no16 (b m : Nat) (hb : b < 65536) (h : m < 16) (ht : (bits .and .u16 (b : Int) (IntKind.u16.wrap ((2 : Int) ^ m)) != 0) = false) :
    Value.int .u16 ((rv 16 m b : Nat) : Int) = .int .u16 ((rv 16 (m + 1) b : Nat) : Int) := by
  rw [bit16 b m hb h, bne_eq_false_iff_eq] at ht
  have hp : ¬ b / 2 ^ m % 2 = 1 := by
    intro e
    rw [e] at ht
    have := Nat.two_pow_pos m
    omega
  have e : rv 16 (m + 1) b = rv 16 m b := by rw [rv, if_neg hp]
  rw [e]

set_option maxHeartbeats 800000 in
theorem f13 (b : Nat) (w : World) (h : b < 65536) :
    Calls Trym.prog 13 #[.int .u16 (b : Int)] w fun e w' => e = .returned (.int .u16 ((rv 16 16 b : Nat) : Int)) ∧ w' = w := by
  go_enter Trym.func13, Trym.ntmps13
  go_wp2
  go_loop [3, 4] (fun r i => ∃ (m : Nat), m ≤ 16 ∧ i = .int .i64 m ∧ r = .int .u16 ((rv 16 m b : Nat) : Int)) (fun _ i => 16 - (intOf i).toNat)
  case atStart => exact ⟨0, Nat.zero_le _, rfl, rfl⟩
  case round =>
    obtain ⟨m, hm, rfl, rfl⟩ := hrel
    by_cases hm8 : m < 16
    · cases ht : (bits .and .u16 (b : Int) (IntKind.u16.wrap ((2 : Int) ^ m)) != 0) with
      | true =>
        have HY := hide (yes16 b m h hm8 ht)
        go_wp2
        go_round
        case rel => exact ⟨m + 1, by omega, by go_num, unhide HY⟩
        case measure => simp [intOf]; omega
      | false =>
        have HY := hide (no16 b m h hm8 ht)
        go_wp2
        go_round
        case rel => exact ⟨m + 1, by omega, by go_num, unhide HY⟩
        case measure => simp [intOf]; omega
    · have hm' : m = 16 := by omega
      subst hm'
      go_wp2
      go_ret
      exact ⟨rfl, rfl⟩

theorem mcrc_snoc (bs : List Nat) (j : Nat) (h : j < bs.length) : mcrc (bs.take (j + 1)) = mupd (mcrc (bs.take j)) (bs.getD j 0) := by
  unfold mcrc
  rw [List.take_succ_eq_append_getElem h, List.foldl_append]
  simp [List.getD, h]
theorem mstn_lt (n x : Nat) (h : x < 65536) : mstn n x < 65536 := by
  cases n with
  | zero => exact h
  | succ n => exact mst_lt _
theorem mupd_lt (m b : Nat) (h : m < 65536) : mupd m b < 65536 := by
  unfold mupd
  exact mstn_lt _ _ (Nat.xor_lt_two_pow (n := 16) h (by have := rv8_lt b; omega))
theorem mcrc_lt (bs : List Nat) : mcrc bs < 65536 := by
  unfold mcrc
  have : ∀ (l : List Nat) (c : Nat), c < 65536 → l.foldl mupd c < 65536 := by
    intro l
    induction l with
    | nil => intro c h; exact h
    | cons b l ih => intro c h; exact ih _ (mupd_lt _ _ h)
  exact this bs _ (by decide)

theorem top_bit (z : Nat) (h : z < 65536) : bits .and .u16 (z : Int) 32768 = ((z / 32768 % 2 * 32768 : Nat) : Int) := by
  have e := u16_and_nat z 32768 h (by decide)
  rw [show z &&& 32768 = z / 32768 % 2 * 32768 from nat_bit 15 z] at e
  exact e
theorem dbl (z : Nat) : IntKind.u16.wrap ((z : Int) * 2) = ((z * 2 % 65536 : Nat) : Int) := by rw [IntKind.wrap_u16]; omega
theorem dbl_xor (z : Nat) : bits .xor .u16 ((z * 2 % 65536 : Nat) : Int) 4129 = (((z * 2 % 65536) ^^^ 4129 : Nat) : Int) :=
  u16_xor_nat (z * 2 % 65536) 4129 (by omega) (by decide)
theorem comp_lit (c : Nat) (h : c < 65536) : bits .xor .u16 (c : Int) 65535 = ((65535 - c : Nat) : Int) := by
  have e := u16_xor_nat c 65535 h (by decide)
  rw [Nat.xor_comm, comp16 c h] at e
  exact e

set_option maxHeartbeats 800000 in
/-- 'zFCSModel' -/
theorem f9 (a : Option Addr) (cap : Nat) (bs : List Nat) (w : World) (h : ByteRow w a bs) (hb : ∀ b ∈ bs, b < 256) (hl : bs.length ≤ 1048580) :
    Calls Trym.prog 9 #[.slice a bs.length cap] w fun e w' => e = .returned (.int .u16 ((65535 - crc bs : Nat) : Int)) ∧ w' = w := by
  go_enter Trym.func9, Trym.ntmps9
  go_wp2
  go_loop [3, 4] (fun c i => ∃ (j : Nat), j ≤ bs.length ∧ i = .int .i64 j ∧ c = .int .u16 ((mcrc (bs.take j) : Nat) : Int)) (fun _ i => bs.length - (intOf i).toNat)
  case atStart => exact ⟨0, Nat.zero_le _, rfl, rfl⟩
  case round =>
    obtain ⟨j, hj, rfl, rfl⟩ := hrel
    have hc : mcrc (bs.take j) < 65536 := mcrc_lt _
    by_cases hlt : j < bs.length
    · obtain ⟨b, off, ha, hlb, hcells⟩ := h (by omega)
      have hcell := hcells j hlt
      have hbj : bs.getD j 0 < 256 := hb _ (by simp [List.getD, hlt])
      have HS := hide (mcrc_snoc bs j hlt)
      generalize mcrc (bs.take j) = c at *
      generalize bs.getD j 0 = o at *
      have hr := rv8_lt o
      have HU : Hid (mupd c o = mstn 8 (c ^^^ (rv 8 8 o * 256))) := hide rfl
      subst ha
      clear hcells h
      go_wp2_with fail
      refine (f12 o _ hbj).mono ?_
      rintro e w' ⟨rfl, hw⟩
      rw [hw]
      clear hw w'
      generalize rv 8 8 o = r at *
      have hx : bits .xor .u16 (c : Int) ((r : Int) * 256) = ((c ^^^ (r * 256) : Nat) : Int) := by
        have := u16_xor_nat c (r * 256) hc (by omega)
        rw [← this]; rfl
      have hy : c ^^^ (r * 256) < 65536 := Nat.xor_lt_two_pow (n := 16) hc (by omega)
      go_wp2
      go_loop [3, 5] (fun x t => ∃ (m : Nat), m ≤ 8 ∧ t = .int .i64 m ∧ x = .int .u16 ((mstn m (c ^^^ r * 256) : Nat) : Int)) (fun _ t => 8 - (intOf t).toNat)
      case atStart => exact ⟨0, Nat.zero_le _, rfl, rfl⟩
      case round =>
        obtain ⟨m, hm, rfl, rfl⟩ := hrel
        have hz := mstn_lt m _ hy
        by_cases hm8 : m < 8
        · have HT : Hid (mstn (m + 1) (c ^^^ r * 256) = mst (mstn m (c ^^^ r * 256))) := hide rfl
          generalize mstn m (c ^^^ r * 256) = z at *
          have hA := top_bit z hz
          rcases Nat.mod_two_eq_zero_or_one (z / 32768) with hp | hp
          · rw [hp] at hA
            go_wp2
            go_round
            case rel => exact ⟨m + 1, by omega, by go_num, by rw [unhide HT, mst, if_neg (by omega)]; exact congrArg (Value.int .u16) (by omega)⟩
            case measure => simp [intOf]; omega
          · rw [hp] at hA
            have hW := dbl z
            go_wp2
            go_round
            case rel => exact ⟨m + 1, by omega, by go_num, by rw [unhide HT, mst, if_pos hp]; exact congrArg (Value.int .u16) (dbl_xor z)⟩
            case measure => simp [intOf]; omega
        · have hm' : m = 8 := by omega
          subst hm'
          go_wp2
          go_round
          case rel => exact ⟨j + 1, by omega, by go_num, by rw [unhide HS, unhide HU]⟩
          case measure => simp [intOf]; omega
    · have hj' : bs.take j = bs := List.take_of_length_le (by omega)
      rw [hj'] at hc
      rw [hj']
      have hcr := crc_lt' bs hb
      have HM := hide (mcrc_eq bs hb)
      go_wp2_with fail
      refine (f13 (mcrc bs) _ hc).mono ?_
      rintro e w' ⟨rfl, hw⟩
      rw [hw, unhide HM]
      clear hw w'
      have hC := comp_lit (crc bs) hcr
      go_wp2
      go_ret
      exact ⟨rfl, rfl⟩
end Go.Proofs.Qxb6606068aMods.Fc
