import Derived.Test.Qxb6600987aModsRows
import Derived.Test.Qxb6600987aModsDep
import Derived.WalkKit
import Derived.WalkSpells
import Derived.WalkLawsBesides
import Derived.ProofKit
import Derived.Below
import Derived.Lib.SliceRun
import Derived.Deep.QuietTactic
import Derived.BigQuiet
import Derived.Maps.OwnSet
namespace Go.Proofs.Qxb6600987aMods.Pt
open Go.ChangeShapes Go.WideShapes Go.ChangeAt Go.RowKit Go.Maps Dp

theorem hide {p : Prop} (h : p) : Hid p := h
theorem unhide {p : Prop} (h : Hid p) : p := h

/-! ### the map of the live processes, as it reads -/
def stat (a : Int) : Value := .agg #[.int .u8 0, .int .i64 a, .int .i64 0, .int .i64 0, .int .i64 0, .int .u64 0]
def sd {H : Type} (a : Int) : DataW H := .agg [.lit (.int .u8 0), .lit (.int .i64 a), .lit (.int .i64 0), .lit (.int .i64 0), .lit (.int .i64 0), .lit (.int .u64 0)]
/-- how a row of integers reads -/
def rdAll {H : Type} : List Value → Option (List (DataW H))
  | [] => some []
  | .int k a :: t => (rdAll t).map (DataW.lit (.int k a) :: ·)
  | _ :: _ => none
theorem rdAll_inv {H : Type} : ∀ (cs : List Value) (ks : List (IntKind × Int)), rdAll (H := H) cs = some (ks.map fun p => DataW.lit (.int p.1 p.2)) → cs = ks.map fun p => Value.int p.1 p.2
  | [], ks, h => by
    cases ks with
    | nil => rfl
    | cons k ks => simp [rdAll] at h
  | c :: t, ks, h => by
    cases c with
    | int k a =>
      simp only [rdAll, Option.map_eq_some_iff] at h
      obtain ⟨ds, hd, he⟩ := h
      cases ks with
      | nil => simp at he
      | cons q ks =>
        simp only [List.map_cons, List.cons.injEq, DataW.lit.injEq, Lit.int.injEq] at he
        obtain ⟨⟨e1, e2⟩, e3⟩ := he
        rw [e3] at hd
        rw [rdAll_inv t ks hd, e1, e2]
        rfl
    | _ => simp [rdAll] at h
/-- how a 'stat' reads -/
def statElem {H : Type} (v : Value) : Option (DataW H × List MemPlace) :=
  match v with
  | .agg cs => (rdAll cs.toList).map fun ds => (DataW.agg ds, [])
  | _ => none
theorem statElem_mk {H : Type} (a : Int) : statElem (H := H) (stat a) = some (sd a, []) := rfl
theorem statElem_inv {H : Type} {v : Value} {a : Int} {ps : List MemPlace} (h : statElem (H := H) v = some (sd a, ps)) : v = stat a := by
  cases v with
  | agg cs =>
    simp only [statElem, Option.map_eq_some_iff] at h
    obtain ⟨ds, hd, he⟩ := h
    simp only [sd, Prod.mk.injEq, DataW.agg.injEq] at he
    rw [he.1] at hd
    have := rdAll_inv cs.toList [(.u8, 0), (.i64, a), (.i64, 0), (.i64, 0), (.i64, 0), (.u64, 0)] hd
    obtain ⟨l⟩ := cs
    simp only at this
    subst this
    rfl
  | _ => simp [statElem] at h

/-- the datum D tells of just the first k entries -/
structure Live {H : Type} (D : DataW H) (l m : List Int) (k : Nat) : Prop where
  tidy : Tidy D
  size : Maps.size D = k
  has : ∀ x : Int, Maps.has D (.int .i64 x) = (idx (l.take k) x).isSome
  at_ : ∀ (x : Int) (i : Nat), idx (l.take k) x = some i → D.atKey (.int .i64 x) (sd 0) = sd (m.getD i 0)

theorem idx_succ_same (l : List Int) (ha : Apart l) (k : Nat) (hk : k < l.length) : idx (l.take (k + 1)) (l.getD k 0) = some k := by
  have hl : (l.take (k + 1)).length = k + 1 := by simp; omega
  have hg : ∀ j, j < k + 1 → (l.take (k + 1)).getD j 0 = l.getD j 0 := by
    intro j hj; simp [List.getD, hj]
  refine idx_first _ _ k (by omega) (hg k (by omega)) fun j hj => ?_
  rw [hg j (by omega)]
  exact ha j k hj hk
theorem idx_succ_other (l : List Int) (k : Nat) (hk : k < l.length) (x : Int) (hx : x ≠ l.getD k 0) : idx (l.take (k + 1)) x = idx (l.take k) x := by
  have hx' : ¬ l[k] = x := by intro e; exact hx (by simp [List.getD, hk, e])
  unfold idx
  rw [List.take_succ_eq_append_getElem hk, List.findIdx?_append]
  simp [hx']
theorem idx_take_not (l : List Int) (ha : Apart l) (k : Nat) (hk : k < l.length) : idx (l.take k) (l.getD k 0) = none := by
  rw [idx_none]
  intro i hi
  have hl : (l.take k).length = k := by simp; omega
  rw [hl] at hi
  have : (l.take k).getD i 0 = l.getD i 0 := by simp [List.getD, hi]
  rw [this]
  exact ha i k hi hk

theorem live_made {H : Type} (l m : List Int) : Live (.map [] : DataW H) l m 0 :=
  ⟨tidy_empty, rfl, fun x => by simp [Maps.has, idx], fun x i h => by simp [idx] at h⟩
theorem Live.put {H : Type} {D : DataW H} {l m : List Int} {k : Nat} (h : Live D l m k) (ha : Apart l) (hk : k < l.length) : Live (D.put (.int .i64 (l.getD k 0)) (sd (m.getD k 0))) l m (k + 1) := by
  have hkey : WideAt.IsKeyLit (.int .i64 (l.getD k 0)) := trivial
  have hnot : Maps.has D (.int .i64 (l.getD k 0)) = false := by rw [h.has, idx_take_not l ha k hk]; rfl
  refine ⟨h.tidy.put hkey _, ?_, fun x => ?_, fun x i hi => ?_⟩
  · rw [size_put h.tidy, hnot, h.size]; simp
  · by_cases hx : x = l.getD k 0
    · rw [hx, has_put_same h.tidy.isMap hkey, idx_succ_same l ha k hk]; rfl
    · rw [has_put_other (by intro e; injection e with _ e; exact hx e), h.has, idx_succ_other l k hk x hx]
  · by_cases hx : x = l.getD k 0
    · rw [hx, idx_succ_same l ha k hk] at hi
      injection hi with hi
      rw [hx, atKey_put_same h.tidy.isMap hkey, hi]
    · rw [idx_succ_other l k hk x hx] at hi
      rw [atKey_put_other (by intro e; injection e with _ e; exact hx e), h.at_ x i hi]
/-- all entries are in: what is looked up is 'lk' -/
theorem Live.whole {H : Type} {D : DataW H} {l m : List Int} (h : Live D l m l.length) (x : Int) :
    Maps.has D (.int .i64 x) = (lk l m x).isSome ∧ D.atKey (.int .i64 x) (sd 0) = sd ((lk l m x).getD 0) := by
  have e : l.take l.length = l := List.take_length
  have h1 := h.has x
  have h2 := h.at_ x
  rw [e] at h1 h2
  unfold lk
  cases hi : idx l x with
  | none =>
    rw [hi] at h1
    exact ⟨h1, by rw [atKey_of_not_has h1]; rfl⟩
  | some i =>
    rw [hi] at h1
    exact ⟨h1, by rw [h2 i hi]; rfl⟩

theorem law3 : Keyed Trym.prog 3 := int_keyed Trym.underlying3
theorem zero46 (w : World) : (zeroValue 46).run Trym.prog w = .ok (stat 0) w := by kernel_rfl

/-- 'v, ok := live[k]' AT THE OPERATION -/
theorem wpList_lookup_stat {H : Type} (w : World) {ops : Array Oper} {rest : List Oper} {o : Oper} {a : Act} {Q : Exit → Act → World → Prop} (hg : o.guard = none) (mo x : Operand) (hop : o.op = Op.lookup 38 mo x true)
    (b n : Nat) (D : DataW H) (hm : a.eval mo = .map (some b)) (hown : w.ownsMap Trym.prog 3 statElem b n D) (y : Int) (hx : a.eval x = .int .i64 y) (hw : (Lit.int .i64 y).wf = true) (hb : Bool) (hh : Maps.has D (.int .i64 y) = hb) (c : Int) (hat : D.atKey (.int .i64 y) (sd 0) = sd c)
    (hK : wpList Trym.prog ops Q rest (a.put o.dst (.tuple #[.agg #[.int .u8 0, .int .i64 c, .int .i64 0, .int .i64 0, .int .i64 0, .int .u64 0], .bool hb])) w) : wpList Trym.prog ops Q (o :: rest) a w :=
  wpList_lookup_own_ok w hg mo x 38 hop 3 46 law3 Trym.underlying38 statElem (zero46 w) (sd 0) [] (statElem_mk 0) b n D hm hown _ (.int .i64 y) hx (keyOf_int_mk Trym.underlying3 hw) (fun v ps hv => by
    rw [hat] at hv
    rw [statElem_inv hv, hh]
    exact hK)
end Go.Proofs.Qxb6600987aMods.Pt
