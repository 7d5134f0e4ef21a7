import Derived.Test.Qxb6605513aModsE
namespace Go.Proofs.Qxb6605513aMods.Pc
open Go.ChangeShapes Go.WideShapes Go.ChangeAt Go.RowKit

set_option maxHeartbeats 3200000 in
set_option maxRecDepth 100000 in
theorem f5 (k ns nm src : ByteArray) (a1 a2 a3 : Option Addr) (p1 p2 p3 : Nat) (s1 s2 s3 : List ByteArray) (w : World)
    (h1 : InRow w a1 s1) (h2 : InRow w a2 s2) (h3 : InRow w a3 s3) (l1 : s1.length ≤ 65536) (l2 : s2.length ≤ 65536) (l3 : s3.length ≤ 65536)
    (hk : k.size ≤ 1048576) (hns : ns.size ≤ 1048576) (hnm : nm.size ≤ 1048576) (hsrc : src.size ≤ 1048576) :
    Calls Trym.prog 5 #[.string k, .string ns, .string nm, .string src, .slice a1 s1.length p1, .slice a2 s2.length p2, .slice a3 s3.length p3] w fun e w' => w' = w ∧ aBool e := by
  go_enter Trym.func5, Trym.ntmps5
  go_wp2
  · go_ret; exact ⟨rfl, _, rfl⟩
  go_loop [15, 16] (fun z i => ∃ (j : Nat) (n : Int), j ≤ s1.length ∧ i = .int .i64 j ∧ z = .int .i64 n ∧ 0 ≤ n ∧ n ≤ 1048576) (fun _ i => s1.length - (intOf i).toNat)
  case atStart => exact ⟨0, _, Nat.zero_le _, rfl, rfl, by omega, by omega⟩
  case round =>
    obtain ⟨j1, n1, hj1, rfl, rfl, hn01, hn11⟩ := hrel
    by_cases hlt : j1 < s1.length
    · obtain ⟨b, off, ha, hlb, hc⟩ := h1 (by omega)
      have hcell := hc j1 hlt
      obtain ⟨f, hf⟩ : ∃ f, f = s1.getD j1 ByteArray.empty := ⟨_, rfl⟩
      rw [← hf] at hcell
      clear hf hc
      subst ha
      by_cases hf1 : f.size ≤ 1048576
      · by_cases hf2 : n1 + (16 + (f.size : Int)) ≤ 1048576
        · go_wp2
          go_round
          case rel => exact ⟨j1 + 1, n1 + (16 + (f.size : Int)), by omega, by go_num, rfl, by omega, by omega⟩
          case measure => simp [intOf]; omega
        · go_wp2
          go_ret; exact ⟨rfl, _, rfl⟩
      · go_wp2
        go_ret; exact ⟨rfl, _, rfl⟩
    · clear hj1
      go_wp2
      go_loop [15, 17] (fun z i => ∃ (j : Nat) (n : Int), j ≤ s2.length ∧ i = .int .i64 j ∧ z = .int .i64 n ∧ 0 ≤ n ∧ n ≤ 1048576) (fun _ i => s2.length - (intOf i).toNat)
      case atStart => exact ⟨0, _, Nat.zero_le _, rfl, rfl, by omega, by omega⟩
      case round =>
        obtain ⟨j2, n2, hj2, rfl, rfl, hn02, hn12⟩ := hrel
        by_cases hlt : j2 < s2.length
        · obtain ⟨b, off, ha, hlb, hc⟩ := h2 (by omega)
          have hcell := hc j2 hlt
          obtain ⟨f, hf⟩ : ∃ f, f = s2.getD j2 ByteArray.empty := ⟨_, rfl⟩
          rw [← hf] at hcell
          clear hf hc
          subst ha
          by_cases hf1 : f.size ≤ 1048576
          · by_cases hf2 : n2 + (16 + (f.size : Int)) ≤ 1048576
            · go_wp2
              go_round
              case rel => exact ⟨j2 + 1, n2 + (16 + (f.size : Int)), by omega, by go_num, rfl, by omega, by omega⟩
              case measure => simp [intOf]; omega
            · go_wp2
              go_ret; exact ⟨rfl, _, rfl⟩
          · go_wp2
            go_ret; exact ⟨rfl, _, rfl⟩
        · clear hj2
          go_wp2
          go_loop [15, 18] (fun z i => ∃ (j : Nat) (n : Int), j ≤ s3.length ∧ i = .int .i64 j ∧ z = .int .i64 n ∧ 0 ≤ n ∧ n ≤ 1048576) (fun _ i => s3.length - (intOf i).toNat)
          case atStart => exact ⟨0, _, Nat.zero_le _, rfl, rfl, by omega, by omega⟩
          case round =>
            obtain ⟨j3, n3, hj3, rfl, rfl, hn03, hn13⟩ := hrel
            by_cases hlt : j3 < s3.length
            · obtain ⟨b, off, ha, hlb, hc⟩ := h3 (by omega)
              have hcell := hc j3 hlt
              obtain ⟨f, hf⟩ : ∃ f, f = s3.getD j3 ByteArray.empty := ⟨_, rfl⟩
              rw [← hf] at hcell
              clear hf hc
              subst ha
              by_cases hf1 : f.size ≤ 1048576
              · by_cases hf2 : n3 + (16 + (f.size : Int)) ≤ 1048576
                · go_wp2
                  go_round
                  case rel => exact ⟨j3 + 1, n3 + (16 + (f.size : Int)), by omega, by go_num, rfl, by omega, by omega⟩
                  case measure => simp [intOf]; omega
                · go_wp2
                  go_ret; exact ⟨rfl, _, rfl⟩
              · go_wp2
                go_ret; exact ⟨rfl, _, rfl⟩
            · clear hj3
              go_wp2
              go_ret; exact ⟨rfl, _, rfl⟩

set_option maxHeartbeats 3200000 in
set_option maxRecDepth 100000 in
theorem f4 (k ns nm src : ByteArray) (a1 a2 a3 : Option Addr) (p1 p2 p3 : Nat) (s1 s2 s3 : List ByteArray) (nil : Bool) (w : World)
    (h1 : InRow w a1 s1) (h2 : InRow w a2 s2) (h3 : InRow w a3 s3) (l1 : s1.length ≤ 9223372036854775807) (l2 : s2.length ≤ 9223372036854775807) (l3 : s3.length ≤ 9223372036854775807) :
    Calls Trym.prog 4 #[.string k, .string ns, .string nm, .string src, .slice a1 s1.length p1, .slice a2 s2.length p2, .slice a3 s3.length p3, .bool nil] w fun e w' => w' = w ∧ aBool e := by
  go_enter Trym.func4, Trym.ntmps4
  go_wp2
  iterate 9 (· go_ret; exact ⟨rfl, _, rfl⟩)
  go_loop [17, 18] (fun z i => ∃ (j : Nat) (n : Int), j ≤ s1.length ∧ i = .int .i64 j ∧ z = .int .i64 n ∧ 0 ≤ n ∧ n ≤ 1048576) (fun _ i => s1.length - (intOf i).toNat)
  case atStart => exact ⟨0, _, Nat.zero_le _, rfl, rfl, by omega, by omega⟩
  case round =>
    obtain ⟨j1, n1, hj1, rfl, rfl, hn01, hn11⟩ := hrel
    by_cases hlt : j1 < s1.length
    · obtain ⟨b, off, ha, hlb, hc⟩ := h1 (by omega)
      have hcell := hc j1 hlt
      obtain ⟨f, hf⟩ : ∃ f, f = s1.getD j1 ByteArray.empty := ⟨_, rfl⟩
      rw [← hf] at hcell
      clear hf hc
      subst ha
      by_cases hf1 : f.size ≤ 1048576
      · by_cases hf2 : n1 + (f.size : Int) ≤ 1048576
        · go_wp2
          go_round
          case rel => exact ⟨j1 + 1, n1 + (f.size : Int), by omega, by go_num, rfl, by omega, by omega⟩
          case measure => simp [intOf]; omega
        · go_wp2
          go_ret; exact ⟨rfl, _, rfl⟩
      · go_wp2
        go_ret; exact ⟨rfl, _, rfl⟩
    · clear hj1
      by_cases hl1 : s2.length ≤ 1048576
      · by_cases hm1 : n1 + (s2.length : Int) ≤ 1048576
        · go_wp2
          go_loop [17, 19] (fun z i => ∃ (j : Nat) (n : Int), j ≤ s2.length ∧ i = .int .i64 j ∧ z = .int .i64 n ∧ 0 ≤ n ∧ n ≤ 1048576) (fun _ i => s2.length - (intOf i).toNat)
          case atStart => exact ⟨0, _, Nat.zero_le _, rfl, rfl, by omega, by omega⟩
          case round =>
            obtain ⟨j2, n2, hj2, rfl, rfl, hn02, hn12⟩ := hrel
            by_cases hlt : j2 < s2.length
            · obtain ⟨b, off, ha, hlb, hc⟩ := h2 (by omega)
              have hcell := hc j2 hlt
              obtain ⟨f, hf⟩ : ∃ f, f = s2.getD j2 ByteArray.empty := ⟨_, rfl⟩
              rw [← hf] at hcell
              clear hf hc
              subst ha
              by_cases hf1 : f.size ≤ 1048576
              · by_cases hf2 : n2 + (f.size : Int) ≤ 1048576
                · go_wp2
                  go_round
                  case rel => exact ⟨j2 + 1, n2 + (f.size : Int), by omega, by go_num, rfl, by omega, by omega⟩
                  case measure => simp [intOf]; omega
                · go_wp2
                  go_ret; exact ⟨rfl, _, rfl⟩
              · go_wp2
                go_ret; exact ⟨rfl, _, rfl⟩
            · clear hj2
              by_cases hl2 : s3.length ≤ 1048576
              · by_cases hm2 : n2 + (s3.length : Int) ≤ 1048576
                · go_wp2
                  go_loop [17, 20] (fun z i => ∃ (j : Nat) (n : Int), j ≤ s3.length ∧ i = .int .i64 j ∧ z = .int .i64 n ∧ 0 ≤ n ∧ n ≤ 1048576) (fun _ i => s3.length - (intOf i).toNat)
                  case atStart => exact ⟨0, _, Nat.zero_le _, rfl, rfl, by omega, by omega⟩
                  case round =>
                    obtain ⟨j3, n3, hj3, rfl, rfl, hn03, hn13⟩ := hrel
                    by_cases hlt : j3 < s3.length
                    · obtain ⟨b, off, ha, hlb, hc⟩ := h3 (by omega)
                      have hcell := hc j3 hlt
                      obtain ⟨f, hf⟩ : ∃ f, f = s3.getD j3 ByteArray.empty := ⟨_, rfl⟩
                      rw [← hf] at hcell
                      clear hf hc
                      subst ha
                      by_cases hf1 : f.size ≤ 1048576
                      · by_cases hf2 : n3 + (f.size : Int) ≤ 1048576
                        · go_wp2
                          go_round
                          case rel => exact ⟨j3 + 1, n3 + (f.size : Int), by omega, by go_num, rfl, by omega, by omega⟩
                          case measure => simp [intOf]; omega
                        · go_wp2
                          go_ret; exact ⟨rfl, _, rfl⟩
                      · go_wp2
                        go_ret; exact ⟨rfl, _, rfl⟩
                    · clear hj3
                      go_wp2
                      go_ret; exact ⟨rfl, _, rfl⟩
                · go_wp2
                  go_ret; exact ⟨rfl, _, rfl⟩
              · go_wp2
                go_ret; exact ⟨rfl, _, rfl⟩
        · go_wp2
          go_ret; exact ⟨rfl, _, rfl⟩
      · go_wp2
        go_ret; exact ⟨rfl, _, rfl⟩
end Go.Proofs.Qxb6605513aMods.Pc
