import Derived.Test.Qxb6600987aModsA
namespace Go.Proofs.Qxb6600987aMods.Pt
open Go.ChangeShapes Go.WideShapes Go.ChangeAt Go.RowKit Go.Maps Dp

/-- a row of numbers: where there is an element, the row lies in a block -/
def IntRow (w : World) (a : Option Addr) (xs : List Int) : Prop :=
  0 < xs.length → ∃ b off, a = some ⟨b, off, none⟩ ∧ b < w.heap.size ∧ ∀ i, i < xs.length → w.cell? ⟨b, off + i, none⟩ = some (.int .i64 (xs.getD i 0))
theorem IntRow.keep {w w' : World} {a : Option Addr} {xs : List Int} (h : IntRow w a xs) (hb : Below w.heap.size w w') : IntRow w' a xs := fun hp => by
  obtain ⟨b, off, ha, hl, hc⟩ := h hp
  exact ⟨b, off, ha, Nat.lt_of_lt_of_le hl hb.size, fun i hi => (hb.cell (p := ⟨b, off + i, none⟩) hl).trans (hc i hi)⟩

/-- Go's answer of a search -/
def ixv (l : List Int) (x : Int) : Int := match idx l x with
  | none => -1
  | some i => i
theorem ixv_none {l : List Int} {x : Int} (h : idx l x = none) : ixv l x = -1 := by simp [ixv, h]
theorem ixv_some {l : List Int} {x : Int} {i : Nat} (h : idx l x = some i) : ixv l x = i := by simp [ixv, h]

set_option maxHeartbeats 800000 in
/-- 'zzIndexB1' -/
theorem f13 (a : Option Addr) (cap : Nat) (l : List Int) (x : Int) (w : World) (h : IntRow w a l) (hl : l.length ≤ 1048576) :
    Calls Trym.prog 13 #[.slice a l.length cap, .int .i64 x] w fun e w' => e = .returned (.int .i64 (ixv l x)) ∧ w' = w := by
  go_enter Trym.func13, Trym.ntmps13
  go_wp2
  go_loop [5] (fun i => ∃ (j : Nat), j ≤ l.length ∧ i = .int .i64 j ∧ ∀ t, t < j → l.getD t 0 ≠ x) (fun i => l.length - (intOf i).toNat)
  case atStart => exact ⟨0, Nat.zero_le _, rfl, fun t ht => absurd ht (by omega)⟩
  case round =>
    obtain ⟨j, hj, rfl, hno⟩ := hrel
    by_cases hlt : j < l.length
    · obtain ⟨b, off, ha, hlb, hcells⟩ := h (by omega)
      have hcell := hcells j hlt
      subst ha
      clear hcells
      by_cases hx : l.getD j 0 = x
      · have HI := hide (ixv_some (idx_first l x j hlt hx hno))
        rw [hx] at hcell
        clear hx hno
        go_wp2
        go_ret
        exact ⟨by rw [unhide HI]; rfl, rfl⟩
      · have hstep : ∀ t, t < j + 1 → l.getD t 0 ≠ x := fun t ht => by
          by_cases e : t = j
          · rw [e]; exact hx
          · exact hno t (by omega)
        have HN := hide hstep
        have hne : (l.getD j 0 == x) = false := by simpa using hx
        clear hno hstep hx
        generalize l.getD j 0 = y at *
        go_wp2
        go_round
        case rel => exact ⟨j + 1, by omega, by go_num, unhide HN⟩
        case measure => simp [intOf]; omega
    · have hn : idx l x = none := (idx_none l x).2 fun i hi => hno i (by omega)
      have HI := hide (ixv_none hn)
      clear hno hn
      go_wp2
      go_ret
      exact ⟨by rw [unhide HI]; rfl, rfl⟩
end Go.Proofs.Qxb6600987aMods.Pt
