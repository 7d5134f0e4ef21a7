import Derived.Test.Qxb6605513aModsB
namespace Go.Proofs.Qxb6605513aMods.Pc
open Go.ChangeShapes Go.WideShapes Go.ChangeAt Go.RowKit

/-- a row of strings: where there is an element, the row lies at the head of a block -/
def StrRow (w : World) (a : Option Addr) (ss : List ByteArray) : Prop :=
  0 < ss.length → ∃ b, a = some ⟨b, 0, none⟩ ∧ b < w.heap.size ∧ ∀ i, i < ss.length → w.cell? ⟨b, i, none⟩ = some (.string (ss.getD i ByteArray.empty)) ∧ (ss.getD i ByteArray.empty).size ≤ maxLen

/-- what is said of an unknown field -/
def du (k f : ByteArray) : ByteArray :=
  if eqk f = true then ⟨#[116, 104, 101, 32]⟩ ++ k ++ ⟨#[32, 65, 80, 73, 32, 104, 97, 115, 32, 110, 111, 32, 102, 105, 101, 108, 100, 32, 111, 102, 32, 116, 104, 105, 115, 32, 110, 97, 109, 101]⟩ ++ ⟨#[59, 32, 97, 32, 107, 101, 121, 32, 105, 110, 32, 113, 117, 111, 116, 101, 115, 32, 105, 115, 32, 111, 110, 101, 32, 110, 97, 109, 101, 44, 32, 110, 111, 116, 32, 97, 32, 112, 97, 116, 104]⟩
  else ⟨#[116, 104, 101, 32]⟩ ++ k ++ ⟨#[32, 65, 80, 73, 32, 104, 97, 115, 32, 110, 111, 32, 102, 105, 101, 108, 100, 32, 111, 102, 32, 116, 104, 105, 115, 32, 110, 97, 109, 101]⟩
/-- .. of a missing one -/
def dm (k : ByteArray) : ByteArray := ⟨#[116, 104, 101, 32]⟩ ++ k ++ ⟨#[32, 65, 80, 73, 32, 114, 101, 113, 117, 105, 114, 101, 115, 32, 116, 104, 105, 115, 32, 102, 105, 101, 108, 100]⟩

theorem hide {p : Prop} (h : p) : Hid p := h
theorem unhide {p : Prop} (h : Hid p) : p := h

theorem map_snoc {α β : Type} (g : α → β) (l : List α) (d : α) (j : Nat) (h : j < l.length) : (l.take (j + 1)).map g = (l.take j).map g ++ [g (l.getD j d)] := by
  rw [List.take_succ_eq_append_getElem h, List.map_append]
  simp only [List.getD, List.getElem?_eq_getElem h, List.map_cons, List.map_nil, Option.getD_some]

/-- the two blocks that are laid first -/
def laid2 (w : World) (k src ns nm : ByteArray) (au am : Option Addr) (nu cu nm' cm : Nat) (rt : Option Nat) : World :=
  (w.alloc (.cells #[.string src, .slice au nu cu, .slice am nm' cm] 39)).alloc (.cells #[.string k, .string src, .string ns, .string nm, .slice none 0 0, .slice none 0 0, .map rt] 41)

theorem laid2_size (w : World) (k src ns nm : ByteArray) (au am : Option Addr) (nu cu nm' cm : Nat) (rt : Option Nat) : (laid2 w k src ns nm au am nu cu nm' cm rt).heap.size = w.heap.size + 2 := by simp [laid2]
theorem laid2_below (w : World) (k src ns nm : ByteArray) (au am : Option Addr) (nu cu nm' cm : Nat) (rt : Option Nat) : Below w.heap.size w (laid2 w k src ns nm au am nu cu nm' cm rt) :=
  ((Below.refl _ _).alloc (Nat.le_refl _) _).alloc (by simp) _
theorem laid2_m (w : World) (k src ns nm : ByteArray) (au am : Option Addr) (nu cu nm' cm : Nat) (rt : Option Nat) : (laid2 w k src ns nm au am nu cu nm' cm rt).cell? ⟨w.heap.size, 2, none⟩ = some (.slice am nm' cm) := by
  unfold laid2
  rw [World.cell?_alloc_past _ _ _ (by simp)]
  exact cell_of_row _ _ 2 _ 39 _ (heap_alloc_new _ _)
theorem laid2_heap (w : World) (k src ns nm : ByteArray) (au am : Option Addr) (nu cu nm' cm : Nat) (rt : Option Nat) : (laid2 w k src ns nm au am nu cu nm' cm rt).heap[w.heap.size + 1]? = some (.cells #[.string k, .string src, .string ns, .string nm, .slice none 0 0, .slice none 0 0, .map rt] 41) := by
  unfold laid2
  have := heap_alloc_new (w.alloc (.cells #[.string src, .slice au nu cu, .slice am nm' cm] 39)) (.cells #[.string k, .string src, .string ns, .string nm, .slice none 0 0, .slice none 0 0, .map rt] 41)
  simpa using this
theorem laid2_inv (w : World) (k src ns nm : ByteArray) (au am : Option Addr) (nu cu nm' cm : Nat) (rt : Option Nat) : Inv (laid2 w k src ns nm au am nu cu nm' cm rt) (w.heap.size + 1) k src ns nm (.slice none 0 0) [] [] := by
  have h := laid2_heap w k src ns nm au am nu cu nm' cm rt
  refine ⟨?_, ?_, ?_, ?_, ?_, ?_, World.ownsRow_nil _ _ _ _, rfl, by simp, by simp, by simp⟩
  · exact cell_of_row _ _ 0 _ 41 _ h
  · exact cell_of_row _ _ 1 _ 41 _ h
  · exact cell_of_row _ _ 2 _ 41 _ h
  · exact cell_of_row _ _ 3 _ 41 _ h
  · exact cell_of_row _ _ 4 _ 41 _ h
  · simp [World.frozen?, h]

set_option maxHeartbeats 3200000 in
set_option maxRecDepth 100000 in
theorem f12 (k src ns nm : ByteArray) (au am : Option Addr) (cu cm : Nat) (us ms : List ByteArray) (rt : Option Nat) (w : World)
    (hu : StrRow w au us) (hm : StrRow w am ms)
    (hk : k.size ≤ 1048576) (lu : us.length ≤ 65536) (lm : ms.length ≤ 65536) :
    Calls Trym.prog 12 #[.string k, .string ns, .string nm, .agg #[.string src, .slice au us.length cu, .slice am ms.length cm], .map rt] w fun e w' =>
      e = .returned (.pointer (some ⟨w.heap.size + 1, 0, none⟩)) ∧ Below w.heap.size w w' ∧
      ∃ v ps, Inv w' (w.heap.size + 1) k src ns nm v ps (us.map (fun f => (f, du k f)) ++ ms.map (fun f => (f, dm k))) := by
  have hB := laid2_below w k src ns nm au am us.length cu ms.length cm rt
  have hS := laid2_size w k src ns nm au am us.length cu ms.length cm rt
  have hM := laid2_m w k src ns nm au am us.length cu ms.length cm rt
  have hI := laid2_inv w k src ns nm au am us.length cu ms.length cm rt
  have HB := hide hB
  have HS := hide hS
  have HM := hide hM
  have HI := hide hI
  clear hB hS hM hI
  go_enter Trym.func12, Trym.ntmps12
  go_wp2
  go_loopw [28] (fun i wr => ∃ (j : Nat) (v : Value) (ps : List Nat), j ≤ us.length ∧ i = .int .i64 j ∧
      Inv wr (w.heap.size + 1) k src ns nm v ps ((us.take j).map (fun f => (f, du k f))) ∧
      Below (w.heap.size + 1) (laid2 w k src ns nm au am us.length cu ms.length cm rt) wr)
    (fun i _ => us.length - (intOf i).toNat)
  case atStart => exact ⟨0, _, _, Nat.zero_le _, rfl, unhide HI, Below.refl _ _⟩
  case round =>
    obtain ⟨j, v, ps, hj, rfl, hinv, hbel⟩ := hrel
    have hps : ps.length = j := by have := hinv.len; simp at this; omega
    have HPS := hide hps
    have hsz : w.heap.size + 2 ≤ wr.heap.size := by have := hbel.size; rw [unhide HS] at this; exact this
    have hcellm : wr.cell? ⟨w.heap.size, 2, none⟩ = some (.slice am ms.length cm) := (hbel.cell (p := ⟨w.heap.size, 2, none⟩) (by simp)).trans (unhide HM)
    clear hps
    by_cases hlt : j < us.length
    · obtain ⟨b, hb, hlb, hcells⟩ := hu (by omega)
      obtain ⟨hcell, hfs⟩ := hcells j hlt
      have hcell' : wr.cell? ⟨b, j, none⟩ = some (.string (us.getD j ByteArray.empty)) := (hbel.cell (p := ⟨b, j, none⟩) (by simp; omega)).trans (((unhide HB).cell (p := ⟨b, j, none⟩) hlb).trans hcell)
      have hsn := map_snoc (fun f => (f, du k f)) us ByteArray.empty j hlt
      obtain ⟨f, hf⟩ : ∃ f, f = us.getD j ByteArray.empty := ⟨_, rfl⟩
      rw [← hf] at hcell' hfs hsn
      have HSN := hide hsn
      clear hf hcell hcells hsn
      subst hb
      cases hq : eqk f with
      | true =>
        have hd : du k f = _ := if_pos hq
        have HD := hide hd
        clear hd
        go_wp2_with fail
        refine (f13 f _ hfs).mono ?_
        rintro e w' ⟨rfl, rfl⟩
        go_wp2_with fail
        refine (f14i (w.heap.size + 1) k src ns nm f _ v ps _ _ hinv (by rw [unhide HPS]; omega)).mono ?_
        rintro e w1 ⟨rfl, v', p, hinv', hbel'⟩
        have hinv2 : Inv w1 (w.heap.size + 1) k src ns nm v' (ps ++ [p]) ((us.take (j + 1)).map (fun f => (f, du k f))) := by rw [unhide HSN, unhide HD]; exact hinv'
        clear hinv'
        go_wp2
        go_roundw
        case rel => exact ⟨j + 1, v', ps ++ [p], by omega, by go_num, hinv2, hbel.trans hbel'⟩
        case measure => simp [intOf]; omega
      | false =>
        have hd : du k f = _ := if_neg (by rw [hq]; decide)
        have HD := hide hd
        clear hd
        go_wp2_with fail
        refine (f13 f _ hfs).mono ?_
        rintro e w' ⟨rfl, rfl⟩
        go_wp2_with fail
        refine (f14i (w.heap.size + 1) k src ns nm f _ v ps _ _ hinv (by rw [unhide HPS]; omega)).mono ?_
        rintro e w1 ⟨rfl, v', p, hinv', hbel'⟩
        have hinv2 : Inv w1 (w.heap.size + 1) k src ns nm v' (ps ++ [p]) ((us.take (j + 1)).map (fun f => (f, du k f))) := by rw [unhide HSN, unhide HD]; exact hinv'
        clear hinv'
        go_wp2
        go_roundw
        case rel => exact ⟨j + 1, v', ps ++ [p], by omega, by go_num, hinv2, hbel.trans hbel'⟩
        case measure => simp [intOf]; omega
    · have hjl : us.take j = us := List.take_of_length_le (by omega)
      rw [hjl] at hinv
      have hps2 : ps.length ≤ 65536 := by rw [unhide HPS]; omega
      have hpsu : ps.length = us.length := by rw [unhide HPS]; omega
      have HPU := hide hpsu
      clear hjl HPS hpsu
      go_wp2
      go_loopw [47] (fun i wr2 => ∃ (j : Nat) (v : Value) (ps : List Nat), j ≤ ms.length ∧ i = .int .i64 j ∧
          Inv wr2 (w.heap.size + 1) k src ns nm v ps (us.map (fun f => (f, du k f)) ++ (ms.take j).map (fun f => (f, dm k))) ∧
          Below (w.heap.size + 1) (laid2 w k src ns nm au am us.length cu ms.length cm rt) wr2)
        (fun i _ => ms.length - (intOf i).toNat)
      case atStart => exact ⟨0, v, ps, Nat.zero_le _, rfl, by simpa using hinv, hbel⟩
      case round =>
        clear hinv hbel hcellm
        obtain ⟨j2, v2, ps2, hj2, rfl, hinv, hbel⟩ := hrel
        have hps2 : ps2.length = us.length + j2 := by have := hinv.len; simp at this; omega
        have HPS2 := hide hps2
        clear hps2
        have hsz2 : w.heap.size + 2 ≤ wr.heap.size := by have := hbel.size; rw [unhide HS] at this; exact this
        by_cases hlt2 : j2 < ms.length
        · obtain ⟨b, hb, hlb, hcells⟩ := hm (by omega)
          obtain ⟨hcell, hfs⟩ := hcells j2 hlt2
          have hcell' : wr.cell? ⟨b, j2, none⟩ = some (.string (ms.getD j2 ByteArray.empty)) := (hbel.cell (p := ⟨b, j2, none⟩) (by simp; omega)).trans (((unhide HB).cell (p := ⟨b, j2, none⟩) hlb).trans hcell)
          have hsn := map_snoc (fun f => (f, dm k)) ms ByteArray.empty j2 hlt2
          obtain ⟨f, hf⟩ : ∃ f, f = ms.getD j2 ByteArray.empty := ⟨_, rfl⟩
          rw [← hf] at hcell' hfs hsn
          have HSN := hide hsn
          clear hf hcell hcells hsn
          subst hb
          go_wp2_with fail
          refine (f14i (w.heap.size + 1) k src ns nm f _ v2 ps2 _ _ hinv (by rw [unhide HPS2]; omega)).mono ?_
          rintro e w1 ⟨rfl, v', p, hinv', hbel'⟩
          have hinv2 : Inv w1 (w.heap.size + 1) k src ns nm v' (ps2 ++ [p]) (us.map (fun f => (f, du k f)) ++ (ms.take (j2 + 1)).map (fun f => (f, dm k))) := by rw [unhide HSN, ← List.append_assoc]; exact hinv'
          clear hinv'
          go_wp2
          go_roundw
          case rel => exact ⟨j2 + 1, v', ps2 ++ [p], by omega, by go_num, hinv2, hbel.trans hbel'⟩
          case measure => simp [intOf]; omega
        · have hjl : ms.take j2 = ms := List.take_of_length_le (by omega)
          rw [hjl] at hinv
          clear hjl
          go_wp2
          go_ret
          exact ⟨rfl, (unhide HB).trans (hbel.mono (Nat.le_succ _)), v2, ps2, hinv⟩
end Go.Proofs.Qxb6605513aMods.Pc
