import Derived.Test.Qxb6600987aModsC
namespace Go.Proofs.Qxb6600987aMods.Pt
open Go.ChangeShapes Go.WideShapes Go.ChangeAt Go.RowKit Go.Maps Dp

theorem info3 : (Trym.prog.info? 3).map (fun i => (i.zero, i.size, i.bytes)) = some (some (.int .i64 0), 1, 8) := by kernel_rfl

/-- the first j numbers, then noughts -/
def mix (xs : List Int) (j : Nat) : List Value := (xs.take j).map (Value.int .i64) ++ List.replicate (xs.length - j) (.int .i64 0)
theorem mix_len (xs : List Int) (j : Nat) (h : j ≤ xs.length) : ((xs.take j).map (Value.int .i64)).length = j := by simp; omega
theorem mix_set (xs : List Int) (j : Nat) (h : j < xs.length) : (mix xs j).set j (.int .i64 (xs.getD j 0)) = mix xs (j + 1) := by
  unfold mix
  have hl := mix_len xs j (by omega)
  rw [List.set_append_right _ _ (by omega), hl, Nat.sub_self, show xs.length - j = (xs.length - (j + 1)) + 1 by omega, List.replicate_succ, List.set_cons_zero, List.take_succ_eq_append_getElem h, List.map_append, List.append_assoc]
  simp only [List.getD, List.getElem?_eq_getElem h, List.map_cons, List.map_nil, Option.getD_some]
  rfl
theorem mix_at (xs : List Int) (j : Nat) (h : j < xs.length) : (mix xs j)[j]? = some (.int .i64 0) := by
  unfold mix
  have hl := mix_len xs j (by omega)
  rw [List.getElem?_append_right (by omega), hl, Nat.sub_self, show xs.length - j = (xs.length - (j + 1)) + 1 by omega, List.replicate_succ]
  rfl
theorem mix_start (xs : List Int) : mix xs 0 = List.replicate xs.length (.int .i64 0) := by simp [mix]
theorem mix_end (xs : List Int) : mix xs xs.length = xs.map (Value.int .i64) := by simp [mix]
theorem row_of_own {w : World} {base g n cap : Nat} {xs : List Int} (h : w.ownsRow base 3 1 (.slice (some ⟨g, 0, none⟩) n cap) n (xs.map (Value.int .i64))) (hn : n = xs.length) : IntRow w (some ⟨g, 0, none⟩) xs := fun _ => by
  refine ⟨g, 0, rfl, (h.lt g rfl).2, fun i hi => ?_⟩
  rw [Nat.zero_add, h.cellAt i (by omega)]
  simp [List.getD, hi]

set_option maxHeartbeats 800000 in
set_option maxRecDepth 100000 in
/-- 'zzCloneIntsB1' -/
theorem f9 (a : Option Addr) (cap : Nat) (xs : List Int) (w : World) (h : IntRow w a xs) (hl : xs.length ≤ 4096) (hn : a = none → xs = []) :
    Calls Trym.prog 9 #[.slice a xs.length cap] w fun e w' => ∃ a' c', e = .returned (.slice a' xs.length c') ∧ IntRow w' a' xs ∧ Below w.heap.size w w' := by
  have q22 := fun (w : World) (a : Option Addr) (n c n' c' : Nat) => Lib.run_eql_slice_nil (P := Trym.prog) w 22 3 a n c n' c' Trym.underlying22
  obtain ⟨i0, hi, hz0, hz1, hz2⟩ := info_parts info3
  cases a with
  | none =>
    obtain rfl := hn rfl
    go_enter Trym.func9, Trym.ntmps9
    go_wp2
    go_ret
    exact ⟨none, ⟨0, rfl⟩, fun hp => absurd hp (by simp), Below.refl _ _⟩
  | some ad =>
    clear hn
    go_enter Trym.func9, Trym.ntmps9
    go_wp2_with (at_make; refine wpList_make_full _ rfl _ _ 22 rfl w.heap.size 3 i0 (.int .i64 0) 1 Trym.underlying22 hi hz0 hz1 _ _ _ _ xs.length rfl rfl (by omega) (by omega) (by rw [hz2]; omega) (by unfold maxLen; omega) (Nat.le_refl _) ?_; intro w1 hown hgrow)
    have hown0 : w1.ownsRow w.heap.size 3 1 (.slice (some ⟨w.heap.size, 0, none⟩) xs.length xs.length) xs.length (mix xs 0) := by
      rw [mix_start]
      have e : (madeCells (Value.cells (.int .i64 0)) (xs.length * 1)).toList = List.replicate xs.length (.int .i64 0) := by
        rw [Nat.mul_one]; exact toList_madeCells_one _ _
      rw [← e]; exact hown
    have hb0 : Below w.heap.size w w1 := (Below.refl _ _).grown hgrow (Nat.le_refl _) (fun k h => by cases h)
    clear hown hgrow
    go_loopw [4] (fun i wr => ∃ j : Nat, j ≤ xs.length ∧ i = .int .i64 j ∧ wr.ownsRow w.heap.size 3 1 (.slice (some ⟨w.heap.size, 0, none⟩) xs.length xs.length) xs.length (mix xs j) ∧ Below w.heap.size w wr) (fun i _ => xs.length - (intOf i).toNat)
    case atStart => exact ⟨0, Nat.zero_le _, rfl, hown0, hb0⟩
    case round =>
      clear hown0 hb0
      obtain ⟨j, hj, rfl, hown, hbel⟩ := hrel
      by_cases hlt : j < xs.length
      · obtain ⟨b, off, ha, hlb, hc⟩ := h (by omega)
        injection ha with ha
        have hcell : wr.cell? ⟨b, off + j, none⟩ = some (.int .i64 (xs.getD j 0)) := (hbel.cell (p := ⟨b, off + j, none⟩) hlb).trans (hc j hlt)
        have htgt : wr.cell? ⟨w.heap.size, j, none⟩ = some (.int .i64 0) := by rw [hown.cellAt j (by omega)]; exact mix_at xs j hlt
        have hfz := hown.frozenAt j
        have hst := (hown.stored j (.int .i64 (xs.getD j 0))).1
        rw [mix_set xs j hlt] at hst
        generalize xs.getD j 0 = f at hcell hst
        clear hc hown
        subst ha
        go_wp2
        go_roundw
        case rel => exact ⟨j + 1, by omega, by go_num, hst, hbel.setCell (Nat.le_refl _) _⟩
        case measure => simp [intOf]; omega
      · have hj' : j = xs.length := by omega
        subst hj'
        rw [mix_end] at hown
        go_wp2
        go_ret
        exact ⟨some ⟨w.heap.size, 0, none⟩, xs.length, rfl, row_of_own hown rfl, hbel⟩

set_option maxHeartbeats 1600000 in
set_option maxRecDepth 100000 in
/-- 'zzLiveB1', no starts -/
theorem f21 (a1 a2 : Option Addr) (p1 p2 : Nat) (l m : List Int) (w : World) (h1 : IntRow w a1 l) (h2 : IntRow w a2 m) (hlm : l.length = m.length) (hl : l.length ≤ 4096) (hap : Apart l) (hw : ∀ x ∈ l, (Lit.int .i64 x).wf = true) :
    Calls Trym.prog 21 #[.slice a1 l.length p1, .slice a2 m.length p2, .slice none 0 0] w fun e w' => e = .returned (.map (some w.heap.size)) ∧ Below w.heap.size w w' ∧
      ∃ (n : Nat) (D : DataW Unit), w'.ownsMap Trym.prog 3 statElem w.heap.size n D ∧ Live D l m l.length := by
  have hmm := @run_makeMap Trym.prog
  go_enter Trym.func21, Trym.ntmps21
  go_wp2
  go_loopw [8] (fun i wr => ∃ (j : Nat) (D : DataW Unit), j ≤ l.length ∧ i = .int .i64 j ∧ wr.ownsMap Trym.prog 3 statElem w.heap.size j D ∧ Live D l m j ∧ Below w.heap.size w wr) (fun i _ => l.length - (intOf i).toNat)
  case atStart => exact ⟨0, _, Nat.zero_le _, rfl, World.ownsMap_made _ _ _ _, live_made l m, (Below.refl _ _).alloc (Nat.le_refl _) _⟩
  case round =>
    obtain ⟨j, D, hj, rfl, hown, hlive, hbel⟩ := hrel
    by_cases hlt : j < l.length
    · have hlt2 : j < m.length := by omega
      obtain ⟨b1, o1, e1, lb1, c1⟩ := h1 (by omega)
      obtain ⟨b2, o2, e2, lb2, c2⟩ := h2 (by omega)
      have x1 : wr.cell? ⟨b1, o1 + j, none⟩ = some (.int .i64 (l.getD j 0)) := (hbel.cell (p := ⟨b1, o1 + j, none⟩) lb1).trans (c1 j hlt)
      have x2 : wr.cell? ⟨b2, o2 + j, none⟩ = some (.int .i64 (m.getD j 0)) := (hbel.cell (p := ⟨b2, o2 + j, none⟩) lb2).trans (c2 j hlt2)
      have hwx : (Lit.int .i64 (l.getD j 0)).wf = true := hw _ (by simp [List.getD, hlt])
      have hlive1 := hlive.put hap hlt
      obtain ⟨w1, hrun, hown1, hgrow1⟩ := (hown.drew).update law3 Trym.underlying38 (by unfold maxLen; omega) (keyOf_int_mk Trym.underlying3 hwx) (statElem_mk (m.getD j 0))
      unfold stat at hrun
      obtain ⟨y, hy⟩ : ∃ y, y = l.getD j 0 := ⟨_, rfl⟩
      obtain ⟨z, hz⟩ : ∃ z, z = m.getD j 0 := ⟨_, rfl⟩
      rw [← hy] at x1 hrun
      rw [← hz] at x2 hrun
      subst e1 e2
      have HO := hide hown1
      have HL := hide hlive1
      have HE := hide hlm
      clear hown1 hlive1 c1 c2 hy hz hlm hown hlive
      have i0 : (0 : Int) ≤ (j : Int) := Int.natCast_nonneg _
      have i1 : (j : Int) < (l.length : Int) := by omega
      have i2 : (j : Int) < (m.length : Int) := by omega
      go_wp2
      go_region
      all_goals go_wp2
      all_goals go_roundw
      case rel => exact ⟨j + 1, _, by omega, by go_num, unhide HO, unhide HL, (hbel.drew).grown hgrow1 hbel.size (fun k hk => by cases hk; exact Nat.le_refl _)⟩
      case measure => simp [intOf]; omega
    · have hj' : j = l.length := by omega
      subst hj'
      clear hlm
      go_wp2
      go_ret
      exact ⟨rfl, hbel, _, D, hown, hlive⟩
end Go.Proofs.Qxb6600987aMods.Pt
