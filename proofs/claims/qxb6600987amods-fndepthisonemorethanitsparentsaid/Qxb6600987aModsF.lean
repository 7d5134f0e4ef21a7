import Derived.Test.Qxb6600987aModsE
namespace Go.Proofs.Qxb6600987aMods.Pt
open Go.ChangeShapes Go.WideShapes Go.ChangeAt Go.RowKit Go.Maps Dp

set_option maxHeartbeats 800000 in
set_option maxRecDepth 100000 in
/-- 'ZZDepth' -/
theorem f10 (a1 a2 : Option Addr) (p1 p2 : Nat) (l m : List Int) (x : Int) (w : World) (h1 : IntRow w a1 l) (h2 : IntRow w a2 m) (hlm : l.length = m.length) (hl : l.length ≤ 4096) (hap : Apart l)
    (hw : ∀ x ∈ l, (Lit.int .i64 x).wf = true) (hwm : ∀ x ∈ m, (Lit.int .i64 x).wf = true) (hwx : (Lit.int .i64 x).wf = true) :
    Calls Trym.prog 10 #[.slice a1 l.length p1, .slice a2 m.length p2, .int .i64 x] w fun e w' => e = .returned (.int .i64 ((dep (lk l m) l.length x : Int) - 1)) ∧ Below w.heap.size w w' := by
  have HE := hide hlm
  clear hlm
  go_enter Trym.func10, Trym.ntmps10
  go_wp2_with fail
  refine (f21 a1 a2 p1 p2 l m _ h1 h2 (unhide HE) hl hap hw).mono ?_
  rintro e w1 ⟨rfl, hb1, n, D, hown, hlive⟩
  have hs := hb1.size
  go_wp2_with fail
  refine (f20 _ n D l m x _ hown hlive hl hwm hwx).mono ?_
  rintro e w2 ⟨rfl, hb2⟩
  go_wp2
  go_ret
  exact ⟨rfl, hb1.trans (hb2.mono hs)⟩

/-! ### the positions met so far -/
structure Seen (l m : List Int) (x0 : Int) (k : Nat) (seen : List Bool) : Prop where
  len : seen.length = l.length
  cnt : seen.count true = k
  live : ∀ j, j < k → (lk l m (ch (lk l m) j x0)).isSome = true
  mark : ∀ i, i < l.length → (seen.getD i true = true ↔ ∃ j, j < k ∧ idx l (ch (lk l m) j x0) = some i)

theorem seen_start (l m : List Int) (x0 : Int) : Seen l m x0 0 (List.replicate l.length false) :=
  ⟨by simp, by simp [List.count_replicate], fun j hj => absurd hj (by omega), fun i hi => by
    constructor
    · intro h; simp [List.getD, hi] at h
    · rintro ⟨j, hj, _⟩; omega⟩
theorem Seen.le {l m : List Int} {x0 : Int} {k : Nat} {seen : List Bool} (h : Seen l m x0 k seen) : k ≤ l.length := by
  rw [← h.len, ← h.cnt]; exact count_le seen
theorem lk_of_idx {l m : List Int} {x : Int} {i : Nat} (h : idx l x = some i) : lk l m x = some (m.getD i 0) := by simp [lk, h]
theorem Seen.step {l m : List Int} {x0 : Int} {k : Nat} {seen : List Bool} (h : Seen l m x0 k seen) {i : Nat} (hi : idx l (ch (lk l m) k x0) = some i) (hs : seen.getD i true = false) : Seen l m x0 (k + 1) (seen.set i true) := by
  have hil := (idx_some l _ i hi).1
  refine ⟨by simp [h.len], by rw [count_set seen i (by rw [h.len]; exact hil) hs, h.cnt], fun j hj => ?_, fun p hp => ?_⟩
  · by_cases e : j = k
    · rw [e, lk_of_idx hi]; rfl
    · exact h.live j (by omega)
  · by_cases e : p = i
    · subst e
      have : (seen.set p true).getD p true = true := by simp [List.getD, show p < seen.length by rw [h.len]; exact hp]
      rw [this]
      exact ⟨fun _ => ⟨k, by omega, hi⟩, fun _ => rfl⟩
    · have e2 : (seen.set i true).getD p true = seen.getD p true := by simp [List.getD, Ne.symm e]
      rw [e2, h.mark p hp]
      constructor
      · rintro ⟨j, hj, hx⟩; exact ⟨j, by omega, hx⟩
      · rintro ⟨j, hj, hx⟩
        by_cases ej : j = k
        · rw [ej, hi] at hx; injection hx with hx; exact absurd hx.symm e
        · exact ⟨j, by omega, hx⟩
theorem Seen.out {l m : List Int} {x0 : Int} {k : Nat} {seen : List Bool} (h : Seen l m x0 k seen) (hn : idx l (ch (lk l m) k x0) = none) : dep (lk l m) l.length x0 = k :=
  dep_out _ k _ x0 h.live (by simp [lk, hn]) h.le
theorem Seen.loop {l m : List Int} {x0 : Int} {k : Nat} {seen : List Bool} (h : Seen l m x0 k seen) {i : Nat} (hi : idx l (ch (lk l m) k x0) = some i) (hs : seen.getD i true = true) : dep (lk l m) l.length x0 = l.length := by
  obtain ⟨hil, hx⟩ := idx_some l _ i hi
  obtain ⟨j, hj, hj2⟩ := (h.mark i hil).1 hs
  obtain ⟨_, hx2⟩ := idx_some l _ i hj2
  exact dep_loop _ _ x0 j k hj (by rw [← hx2, hx]) h.live

theorem info4 : (Trym.prog.info? 4).map (fun i => (i.zero, i.size, i.bytes)) = some (some (.bool false), 1, 1) := by kernel_rfl

set_option maxHeartbeats 1600000 in
set_option maxRecDepth 100000 in
/-- 'zzDepthModelB1' -/
theorem f11 (a1 a2 : Option Addr) (p1 p2 : Nat) (l m : List Int) (x0 : Int) (w : World) (h1 : IntRow w a1 l) (h2 : IntRow w a2 m) (hlm : l.length = m.length) (hl : l.length ≤ 4096) :
    Calls Trym.prog 11 #[.slice a1 l.length p1, .slice a2 m.length p2, .int .i64 x0] w fun e w' => e = .returned (.int .i64 ((dep (lk l m) l.length x0 : Int) - 1)) ∧ Below w.heap.size w w' := by
  obtain ⟨i0, hi, hz0, hz1, hz2⟩ := info_parts info4
  have HE := hide hlm
  clear hlm
  go_enter Trym.func11, Trym.ntmps11
  go_wp2_with (at_make; refine wpList_make_full _ rfl _ _ 34 rfl w.heap.size 4 i0 (.bool false) 1 Trym.underlying34 hi hz0 hz1 _ _ _ _ l.length rfl rfl (by omega) (by omega) (by rw [hz2]; omega) (by unfold maxLen; omega) (Nat.le_refl _) ?_; intro w1 hown hgrow)
  have hown0 : w1.ownsRow w.heap.size 4 1 (.slice (some ⟨w.heap.size, 0, none⟩) l.length l.length) l.length ((List.replicate l.length false).map Value.bool) := by
    have e : (madeCells (Value.cells (.bool false)) (l.length * 1)).toList = (List.replicate l.length false).map Value.bool := by
      rw [Nat.mul_one, List.map_replicate]; exact toList_madeCells_one _ _
    rw [← e]; exact hown
  have hb0 : Below w.heap.size w w1 := (Below.refl _ _).grown hgrow (Nat.le_refl _) (fun k h => by cases h)
  clear hown hgrow
  have hs0 := hb0.size
  refine (f13 a1 p1 l x0 _ (h1.keep hb0) (by omega)).mono ?_
  rintro e w' ⟨rfl, hw'⟩
  rw [hw']
  clear hw' w'
  go_wp2
  go_loopw [9, 10] (fun at_ c wr => ∃ (k : Nat) (seen : List Bool), at_ = .int .i64 (ixv l (ch (lk l m) k x0)) ∧ c = .int .i64 k ∧ Seen l m x0 k seen ∧
      wr.ownsRow w.heap.size 4 1 (.slice (some ⟨w.heap.size, 0, none⟩) l.length l.length) l.length (seen.map Value.bool) ∧ Below w.heap.size w wr) (fun _ c _ => l.length - (intOf c).toNat)
  case atStart => exact ⟨0, _, rfl, rfl, seen_start l m x0, hown0, hb0⟩
  case round =>
    clear hown0 hb0
    obtain ⟨k, seen, rfl, rfl, hseen, hown, hbel⟩ := hrel
    have hkl := hseen.le
    cases hx : idx l (ch (lk l m) k x0) with
    | none =>
      have HF := hide (hseen.out hx)
      rw [ixv_none hx]
      clear hx hseen hown
      go_wp2
      go_ret
      exact ⟨by rw [unhide HF]; rfl, hbel⟩
    | some i =>
      have hil := (idx_some l _ i hx).1
      have hc : wr.cell? ⟨w.heap.size, i, none⟩ = some (.bool (seen.getD i true)) := by
        rw [hown.cellAt i (by omega)]
        simp [List.getD, show i < seen.length by rw [hseen.len]; exact hil]
      rw [ixv_some hx]
      cases hs : seen.getD i true with
      | true =>
        have HF := hide (hseen.loop hx hs)
        rw [hs] at hc
        clear hx hseen hown hs
        go_wp2
        go_ret
        exact ⟨by rw [unhide HF]; rfl, hbel⟩
      | false =>
        have hseen1 := hseen.step hx hs
        have hkl1 := hseen1.le
        have hfz := hown.frozenAt i
        have hst := (hown.stored i (.bool true)).1
        rw [show (seen.map Value.bool).set i (.bool true) = (seen.set i true).map Value.bool from by rw [List.map_set]] at hst
        have hnx : ch (lk l m) (k + 1) x0 = m.getD i 0 := by rw [ch_succ, lk_of_idx hx]; rfl
        obtain ⟨b, off, ha, hlb, hcells⟩ := h2 (by rw [← unhide HE]; omega)
        have hcell : wr.cell? ⟨b, off + i, none⟩ = some (.int .i64 (m.getD i 0)) := (hbel.cell (p := ⟨b, off + i, none⟩) hlb).trans (hcells i (by rw [← unhide HE]; exact hil))
        rw [← hnx] at hcell
        rw [hs] at hc
        have hb1 : Below w.heap.size w (wr.setCell ⟨w.heap.size, i, none⟩ (.bool true)) := hbel.setCell (Nat.le_refl _) _
        have hr1 := h1.keep hb1
        have hil2 : i < m.length := by rw [← unhide HE]; exact hil
        have hbne : b ≠ w.heap.size := by omega
        have HS := hide hseen1
        obtain ⟨z, hz⟩ : ∃ z, z = ch (lk l m) (k + 1) x0 := ⟨_, rfl⟩
        rw [← hz] at hcell
        have HZ := hide hz
        subst ha
        clear hx hseen hown hs hcells hnx hseen1 hz
        go_wp2_with fail
        refine (f13 a1 p1 l z _ hr1 (by omega)).mono ?_
        rintro e w' ⟨rfl, hw'⟩
        rw [hw']
        clear hw' w'
        go_wp2
        go_roundw
        case rel => exact ⟨k + 1, seen.set i true, by rw [unhide HZ], by go_num, unhide HS, hst, hb1⟩
        case measure => simp [intOf]; omega
end Go.Proofs.Qxb6600987aMods.Pt
