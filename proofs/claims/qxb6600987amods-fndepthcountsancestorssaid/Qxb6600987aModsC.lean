import Derived.Test.Qxb6600987aModsB
namespace Go.Proofs.Qxb6600987aMods.Pt
open Go.ChangeShapes Go.WideShapes Go.ChangeAt Go.RowKit Go.Maps Dp

theorem cell_heap {w w' : World} (h : w.heap = w'.heap) : ∀ a, w.cell? a = w'.cell? a := fun a => by simp [World.cell?, h]
def aBool (e : Ending) : Prop := ∃ b, e = .returned (.bool b)

set_option maxHeartbeats 400000 in
theorem f7 (a1 a2 : Option Addr) (n1 n2 p1 p2 : Nat) (x : Int) (w : World) (h1 : n1 ≤ 9223372036854775807) (h2 : n2 ≤ 9223372036854775807) :
    Calls Trym.prog 7 #[.slice a1 n1 p1, .slice a2 n2 p2, .int .i64 x] w fun e w' => w' = w ∧ aBool e := by
  go_enter Trym.func7, Trym.ntmps7
  go_wp2
  all_goals (go_ret; exact ⟨rfl, _, rfl⟩)
set_option maxHeartbeats 400000 in
theorem f12 (a1 a2 : Option Addr) (n1 n2 p1 p2 : Nat) (x : Int) (w : World) (h1 : n1 ≤ 9223372036854775807) (h2 : n2 ≤ 9223372036854775807) :
    Calls Trym.prog 12 #[.slice a1 n1 p1, .slice a2 n2 p2, .int .i64 x] w fun e w' => w' = w ∧ aBool e := by
  go_enter Trym.func12, Trym.ntmps12
  go_wp2
  all_goals (go_ret; exact ⟨rfl, _, rfl⟩)

set_option maxHeartbeats 1600000 in
set_option maxRecDepth 100000 in
/-- 'zzDistinctB1' -/
theorem f8 (a : Option Addr) (cap : Nat) (l : List Int) (w : World) (h : IntRow w a l) (hl : l.length ≤ 4096) :
    Calls Trym.prog 8 #[.slice a l.length cap] w fun e w' => Below w.heap.size w w' ∧ (e = .returned (.bool false) ∨ (e = .returned (.bool true) ∧ Apart l)) := by
  go_enter Trym.func8, Trym.ntmps8
  go_wp2
  go_loopw [3] (fun i wr => ∃ (p : Nat), p ≤ l.length ∧ i = .int .i64 p ∧ (∀ s t, s < p → s < t → t < l.length → l.getD s 0 ≠ l.getD t 0) ∧ wr.heap = w.heap ∧ Below w.heap.size w wr) (fun i _ => l.length - (intOf i).toNat)
  case atStart => exact ⟨0, Nat.zero_le _, rfl, fun s t hs => absurd hs (by omega), rfl, Below.refl _ _⟩
  case round =>
    obtain ⟨p, hp, rfl, hno, hh, hbel⟩ := hrel
    have HN := hide hno
    have HH := hide hh
    clear hno hh
    by_cases hlt : p < l.length
    · go_wp2
      go_loopw [4] (fun j wr => ∃ (q : Nat), p + 1 ≤ q ∧ q ≤ l.length ∧ j = .int .i64 q ∧ (∀ t, p < t → t < q → l.getD p 0 ≠ l.getD t 0) ∧ wr.heap = w.heap ∧ Below w.heap.size w wr) (fun j _ => l.length - (intOf j).toNat)
      case atStart => exact ⟨p + 1, Nat.le_refl _, by omega, by go_num, fun t h1 h2 => absurd h2 (by omega), unhide HH, hbel⟩
      case round =>
        clear HH hbel
        obtain ⟨q, hq0, hq, rfl, hnq, hh, hbel⟩ := hrel
        have HH := hide hh
        by_cases hlt2 : q < l.length
        · obtain ⟨b, off, ha, hlb, hcells⟩ := h (by omega)
          have cw := cell_heap hh
          have x1 := (cw _).trans (hcells p hlt)
          have x2 := (cw _).trans (hcells q hlt2)
          have i0 : (0 : Int) ≤ (p : Int) := Int.natCast_nonneg _
          have i1 : (p : Int) < (l.length : Int) := by omega
          have i2 : (0 : Int) ≤ (q : Int) := Int.natCast_nonneg _
          have i3 : (q : Int) < (l.length : Int) := by omega
          by_cases hx : l.getD p 0 = l.getD q 0
          · rw [← hx] at x2
            generalize l.getD p 0 = y at x1 x2
            subst ha
            clear hcells hx hnq hh cw
            go_wp2
            go_quiet (fail)
            go_wp2
            go_ret
            exact ⟨below_drewN hbel _, Or.inl rfl⟩
          · have hstep : ∀ t, p < t → t < q + 1 → l.getD p 0 ≠ l.getD t 0 := fun t h1 h2 => by
              by_cases e : t = q
              · rw [e]; exact hx
              · exact hnq t h1 (by omega)
            have HQ := hide hstep
            have hne : (l.getD p 0 == l.getD q 0) = false := by simpa using hx
            obtain ⟨y, hy⟩ : ∃ y, y = l.getD p 0 := ⟨_, rfl⟩
            obtain ⟨z, hz⟩ : ∃ z, z = l.getD q 0 := ⟨_, rfl⟩
            rw [← hy] at x1 hne
            rw [← hz] at x2 hne
            subst ha
            clear hcells hx hnq hh cw hstep hy hz
            go_wp2
            go_quiet (fail)
            go_wp2
            go_roundw
            case rel => exact ⟨q + 1, by omega, by omega, by go_num, unhide HQ, unhide HH, below_drewN hbel _⟩
            case measure => simp [intOf]; omega
        · have hstep : ∀ s t, s < p + 1 → s < t → t < l.length → l.getD s 0 ≠ l.getD t 0 := fun s t h1 h2 h3 => by
            by_cases e : s = p
            · rw [e]; exact hnq t (by omega) (by omega)
            · exact unhide HN s t (by omega) h2 h3
          have HQ := hide hstep
          clear hstep hnq hh
          go_wp2
          go_roundw
          case rel => exact ⟨p + 1, by omega, by go_num, unhide HQ, unhide HH, hbel⟩
          case measure => simp [intOf]; omega
    · go_wp2
      go_ret
      exact ⟨hbel, Or.inr ⟨rfl, fun s t h1 h2 => unhide HN s t (by omega) h1 h2⟩⟩
end Go.Proofs.Qxb6600987aMods.Pt
