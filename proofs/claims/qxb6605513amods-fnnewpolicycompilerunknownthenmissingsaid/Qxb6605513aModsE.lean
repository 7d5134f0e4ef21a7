import Derived.Test.Qxb6605513aModsD
import Derived.Maps.Own
namespace Go.Proofs.Qxb6605513aMods.Pc
open Go.ChangeShapes Go.WideShapes Go.ChangeAt Go.RowKit Go.Maps
open Go.WideMaps (keyOf_string_mk)

def aBool (e : Ending) : Prop := ∃ b, e = .returned (.bool b)

theorem law9 : Keyed Trym.prog 9 := string_keyed Trym.underlying9

set_option maxHeartbeats 800000 in
set_option maxRecDepth 100000 in
theorem f8 (a : Option Addr) (cap : Nat) (ss : List ByteArray) (nil : Bool) (w : World) (h : StrRow w a ss) (hl : ss.length ≤ 65536) :
    Calls Trym.prog 8 #[.slice a ss.length cap, .bool nil] w fun e w' => Below w.heap.size w w' ∧ ∃ r, e = .returned (.map r) := by
  have hmm : ∀ (w : World) (n : Int), (Instr.makeMap 27 (some (.int .i64 n))).run Trym.prog w = .ok (.map (some w.heap.size)) (w.alloc (.map #[] 0)) := by
    intro w n
    simp [Instr.makeMap, run_underlying Trym.underlying27, asInt, asIntOf]
  cases nil with
  | true =>
    go_enter Trym.func8, Trym.ntmps8
    go_wp2
    go_ret
    exact ⟨Below.refl _ _, none, rfl⟩
  | false =>
    go_enter Trym.func8, Trym.ntmps8
    go_wp2
    go_loopw [6] (fun i wr => ∃ (j : Nat) (D : DataW Unit), j ≤ ss.length ∧ i = .int .i64 j ∧ wr.ownsMap Trym.prog 9 (plainElem Trym.prog 4) w.heap.size j D ∧ Below w.heap.size w wr) (fun i _ => ss.length - (intOf i).toNat)
    case atStart => exact ⟨0, _, Nat.zero_le _, rfl, World.ownsMap_made _ _ _ _, (Below.refl _ _).alloc (Nat.le_refl _) _⟩
    case round =>
      obtain ⟨j, D, hj, rfl, hown, hbel⟩ := hrel
      by_cases hlt : j < ss.length
      · obtain ⟨b, ha, hlb, hc⟩ := h (by omega)
        have hcell : wr.cell? ⟨b, j, none⟩ = some (.string (ss.getD j ByteArray.empty)) := (hbel.cell (p := ⟨b, j, none⟩) hlb).trans (hc j hlt).1
        have hfs := (hc j hlt).2
        obtain ⟨f, hf⟩ : ∃ f, f = ss.getD j ByteArray.empty := ⟨_, rfl⟩
        rw [← hf] at hcell hfs
        clear hf hc
        subst ha
        have hkey := keyOf_string_mk (s := f) Trym.underlying9 hfs
        go_wp2_with (at_mapUpdate; refine wpList_mapUpdate_own _ rfl _ _ _ 27 rfl 9 4 law9 Trym.underlying27 _ w.heap.size j _ rfl hown (by unfold maxLen; omega) _ _ _ rfl rfl hkey _ [] (plainElem_bool Trym.underlying4 true) ?_; intro w1 hown1 hgrow1)
        go_roundw
        case rel => exact ⟨j + 1, _, by omega, by go_num, hown1, hbel.grown hgrow1 hbel.size (fun k hk => by cases hk; exact Nat.le_refl _)⟩
        case measure => simp [intOf]; omega
      · go_wp2
        go_ret
        exact ⟨hbel, _, rfl⟩

set_option maxHeartbeats 400000 in
theorem f6 (k : ByteArray) (n : Int) (w : World) (hk : k.size ≤ 1048576) (h0 : 0 ≤ n) (h1 : n ≤ 131072) :
    Calls Trym.prog 6 #[.string k, .int .i64 n] w fun e w' => w' = w ∧ aBool e := by
  by_cases hn : n ≤ 0
  · go_enter Trym.func6, Trym.ntmps6
    go_wp2
    go_ret
    exact ⟨rfl, _, rfl⟩
  · go_enter Trym.func6, Trym.ntmps6
    go_wp2
    all_goals go_ret
    all_goals exact ⟨rfl, _, rfl⟩
end Go.Proofs.Qxb6605513aMods.Pc
