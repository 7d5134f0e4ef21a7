import Derived.Test.Qxb6605513aModsRows
import Derived.WalkKit
import Derived.WalkSpells
import Derived.WalkLawsBesides
import Derived.ProofKit
import Derived.Below
import Derived.Deep.RegionHeld3
import Derived.Deep.AppendLies
import Derived.Deep.RegionLaw
import Derived.Deep.QuietTactic
import Derived.BigQuiet
namespace Go.Proofs.Qxb6605513aMods.Pc
open Go.ChangeShapes Go.WideShapes Go.ChangeAt Go.RowKit

/-- does the string end in a quote and a bracket? -/
def eqk (s : ByteArray) : Bool := decide (2 ≤ s.size) && ((s.extract (s.size - 2) s.size).toList == [34, 93])

set_option maxHeartbeats 400000 in
theorem f17 (s : ByteArray) (w : World) (hs : s.size ≤ maxLen) :
    Calls Trym.prog 17 #[.string s, .string ⟨#[34, 93]⟩] w fun e w' => e = .returned (.bool (eqk s)) ∧ w' = w := by
  unfold maxLen at hs
  by_cases h : 2 ≤ s.size
  · go_enter Trym.func17, Trym.ntmps17
    go_wp2
    go_ret
    exact ⟨by simp [eqk, h], rfl⟩
  · go_enter Trym.func17, Trym.ntmps17
    go_wp2
    go_ret
    exact ⟨by simp [eqk, h], rfl⟩

set_option maxHeartbeats 400000 in
theorem f15 (s : ByteArray) (w : World) (hs : s.size ≤ maxLen) :
    Calls Trym.prog 15 #[.string s, .string ⟨#[34, 93]⟩] w fun e w' => e = .returned (.bool (eqk s)) ∧ w' = w := by
  go_enter Trym.func15, Trym.ntmps15
  go_wp2_with (go_at_call 17; refine (f17 s _ hs).mono ?_; rintro e w' ⟨rfl, rfl⟩)
  go_ret
  exact ⟨rfl, rfl⟩

set_option maxHeartbeats 400000 in
theorem f13 (s : ByteArray) (w : World) (hs : s.size ≤ maxLen) :
    Calls Trym.prog 13 #[.string s] w fun e w' => e = .returned (.bool (eqk s)) ∧ w' = w := by
  go_enter Trym.func13, Trym.ntmps13
  go_wp2_with (go_at_call 15; refine (f15 s _ hs).mono ?_; rintro e w' ⟨rfl, rfl⟩)
  go_ret
  exact ⟨rfl, rfl⟩

set_option maxHeartbeats 400000 in
/-- 'ZZpolicyCompilerProblems' -/
theorem f10 (c : Nat) (ao : Option Addr) (n cap : Nat) (w : World) (h4 : w.cell? ⟨c, 4, none⟩ = some (.slice ao n cap)) :
    Calls Trym.prog 10 #[.pointer (some ⟨c, 0, none⟩)] w fun e w' => e = .returned (.slice ao n cap) ∧ w' = w := by
  go_enter Trym.func10, Trym.ntmps10
  go_wp2
  go_ret
  exact ⟨rfl, rfl⟩

/-- what 'inField' makes -/
def recOf (k src ns nm f d : ByteArray) : Obj := .cells #[.string src, .string k, .string ns, .string nm, .string f, .string d] 36

set_option maxHeartbeats 400000 in
/-- 'inField' -/
theorem f16 (c : Nat) (k src ns nm at_ dt : ByteArray) (w : World)
    (h0 : w.cell? ⟨c, 0, none⟩ = some (.string k)) (h1 : w.cell? ⟨c, 1, none⟩ = some (.string src)) (h2 : w.cell? ⟨c, 2, none⟩ = some (.string ns)) (h3 : w.cell? ⟨c, 3, none⟩ = some (.string nm)) :
    Calls Trym.prog 16 #[.pointer (some ⟨c, 0, none⟩), .string at_, .string dt] w fun e w' => e = .returned (.pointer (some ⟨w.heap.size, 0, none⟩)) ∧ w' = (w.alloc (recOf k src ns nm at_ dt)).drew := by
  go_enter Trym.func16, Trym.ntmps16
  go_wp2
  go_region_held3 (fun w' => w'.cell? ⟨c, 0, none⟩ = some (.string k) ∧ w'.cell? ⟨c, 1, none⟩ = some (.string src) ∧ w'.cell? ⟨c, 2, none⟩ = some (.string ns) ∧ w'.cell? ⟨c, 3, none⟩ = some (.string nm)) (go_keep) (fail)
  go_wp2
  go_ret
  exact ⟨rfl, rfl⟩

theorem info33 : (Trym.prog.info? 33).map (fun i => (i.zero, i.size, i.bytes)) = some (some (.pointer none), 1, 8) := by kernel_rfl

def ptr (p : Nat) : Value := .pointer (some ⟨p, 0, none⟩)

structure Inv (w : World) (c : Nat) (k src ns nm : ByteArray) (v : Value) (ps : List Nat) (rs : List (ByteArray × ByteArray)) : Prop where
  c0 : w.cell? ⟨c, 0, none⟩ = some (.string k)
  c1 : w.cell? ⟨c, 1, none⟩ = some (.string src)
  c2 : w.cell? ⟨c, 2, none⟩ = some (.string ns)
  c3 : w.cell? ⟨c, 3, none⟩ = some (.string nm)
  c4 : w.cell? ⟨c, 4, none⟩ = some v
  fz : w.frozen? ⟨c, 4, none⟩ = false
  own : w.ownsRow (c + 1) 33 1 v ps.length (ps.map ptr)
  len : ps.length = rs.length
  recs : ∀ (i p : Nat) (r : ByteArray × ByteArray), ps[i]? = some p → rs[i]? = some r → w.heap[p]? = some (recOf k src ns nm r.1 r.2)
  gt : ∀ p ∈ ps, c < p
  far : ∀ p ∈ ps, v.ownBlock ≠ some p

set_option maxHeartbeats 1600000 in
set_option maxRecDepth 100000 in
theorem f14 (c : Nat) (k src ns nm at_ dt : ByteArray) (ao : Option Addr) (n cap : Nat) (xs : List Value) (w : World)
    (h0 : w.cell? ⟨c, 0, none⟩ = some (.string k)) (h1 : w.cell? ⟨c, 1, none⟩ = some (.string src)) (h2 : w.cell? ⟨c, 2, none⟩ = some (.string ns)) (h3 : w.cell? ⟨c, 3, none⟩ = some (.string nm))
    (h4 : w.cell? ⟨c, 4, none⟩ = some (.slice ao n cap)) (fz : w.frozen? ⟨c, 4, none⟩ = false) (hown : w.ownsRow (c + 1) 33 1 (.slice ao n cap) n xs) (hn : n ≤ 1000000) :
    Calls Trym.prog 14 #[.pointer (some ⟨c, 0, none⟩), .string at_, .string dt] w fun e w' => e = .returned (.tuple #[]) ∧
      ∃ g cap' w1, w' = w1.setCell ⟨c, 4, none⟩ (.slice (some ⟨g, 0, none⟩) (n + 1) cap') ∧ w1.ownsRow (c + 1) 33 1 (.slice (some ⟨g, 0, none⟩) (n + 1) cap') (n + 1) (xs ++ [ptr w.heap.size]) ∧
        ((w.alloc (recOf k src ns nm at_ dt)).alloc (.cells #[ptr w.heap.size] 33)).grownBy w1 (Value.ownBlock (.slice ao n cap)) ∧ (Value.ownBlock (.slice ao n cap) = some g ∨ g = w.heap.size + 2) := by
  obtain ⟨i0, hi, hz0, hz1, hz2⟩ := info_parts info33
  have lc : c < w.heap.size := World.block_lt_of_cell? w _ h4
  have hb : ∀ g, Value.ownBlock (.slice ao n cap) = some g → c + 1 ≤ g := fun g hg => (hown.lt g hg).1
  have hne : some c ≠ Value.ownBlock (.slice ao n cap) := fun e => by have := hb c e.symm; omega
  have hnews : ∀ W : World, W = ((w.alloc (recOf k src ns nm at_ dt)).alloc (.cells #[ptr w.heap.size] 33)) → ∀ j u, [ptr w.heap.size][j]? = some u → W.cell? ((⟨w.heap.size + 1, 0, none⟩ : Addr).add j) = some u := by
    rintro W rfl
    exact World.news_of_block (cs := #[ptr w.heap.size]) (t := 33) (fr := (0, 0)) (by have := heap_alloc_new (w.alloc (recOf k src ns nm at_ dt)) (.cells #[ptr w.heap.size] 33); simpa using this)
  have hnews := hnews _ rfl
  have hk : ∀ w1, ((w.alloc (recOf k src ns nm at_ dt)).alloc (.cells #[ptr w.heap.size] 33)).grownBy w1 (Value.ownBlock (.slice ao n cap)) → w1.cell? ⟨c, 4, none⟩ = some (.slice ao n cap) ∧ w1.frozen? ⟨c, 4, none⟩ = false := fun w1 hg =>
    ⟨by rw [hg.cell_far ⟨c, 4, none⟩ (by simp; omega) hne, World.cell?_alloc_past _ _ _ (by simp; omega), World.cell?_alloc_past _ _ _ lc]; exact h4,
     by rw [hg.frozen_far ⟨c, 4, none⟩ (by simp; omega) hne, World.frozen?_alloc_past _ _ _ (by simp; omega), World.frozen?_alloc_past _ _ _ lc]; exact fz⟩
  go_enter Trym.func14, Trym.ntmps14
  go_region_law (first
    | (go_simp; go_at_call 16; refine (f16 c k src ns nm at_ dt _ (by exact h0) (by exact h1) (by exact h2) (by exact h3)).mono ?_; rintro e w' ⟨rfl, rfl⟩)
    | (refine step_append_lies _ (by rfl) _ _ _ (by rfl) (c + 1) 33 i0 _ 1 8 Trym.underlying31 hi hz0 hz1 hz2 rfl (by omega) (.slice ao n cap) n xs (by rfl) (by exact ((hown.alloc _).alloc _)) ⟨w.heap.size + 1, 0, none⟩ 1 1 [ptr w.heap.size] (by rfl) (by rfl) hnews (by simp [Value.oneCell', ptr]) (by omega) (by unfold maxLen; omega) (by omega) (by simp; omega) (w.heap.size + 2) (by simp) ?_; intro g cap' w1 hown1 hgrow hat hlt; obtain ⟨k4, f4⟩ := hk w1 ⟨hgrow.os, hgrow.tape, hgrow.output, hgrow.size, hgrow.block⟩))
  all_goals go_end0
  all_goals exact ⟨rfl, _, _, _, rfl, by assumption, ⟨hgrow.os, hgrow.tape, hgrow.output, hgrow.size, hgrow.block⟩, hat⟩
end Go.Proofs.Qxb6605513aMods.Pc
