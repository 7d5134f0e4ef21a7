import Derived.Test.Qxb6605513aModsH
import Derived.Test.Qxb6605513aModsJ
import Derived.SliceStrings
import Derived.OpenShut
namespace Go.Proofs.Qxb6605513aMods.Pc
open Go.ChangeShapes Go.WideShapes Go.ChangeAt Go.RowKit
open Go.ChangeMaps (open_string shut_string)

theorem walk (k ns nm src : ByteArray) (a1 a2 a3 : Option Addr) (n1 n2 n3 p1 p2 p3 : Nat) (s1 s2 s3 : List ByteArray) (nil : Bool) (w : World)
    (e1 : n1 = s1.length) (e2 : n2 = s2.length) (e3 : n3 = s3.length)
    (h1 : InRow w a1 s1) (h2 : InRow w a2 s2) (h3 : InRow w a3 s3) (m1 : s1.length ≤ maxLen) (m2 : s2.length ≤ maxLen) (m3 : s3.length ≤ maxLen)
    (z1 : ∀ s ∈ s1, s.size ≤ maxLen) (z2 : ∀ s ∈ s2, s.size ≤ maxLen) (z3 : ∀ s ∈ s3, s.size ≤ maxLen)
    (o1 : a1 = none → s1 = []) (o2 : a2 = none → s2 = []) (o3 : a3 = none → s3 = []) :
    Calls Trym.prog 3 #[.string k, .string ns, .string nm, .string src, .slice a1 n1 p1, .slice a2 n2 p2, .slice a3 n3 p3, .bool nil] w fun e w' => e = .returned (.bool true) ∧ Below w.heap.size w w' := by
  subst e1 e2 e3
  by_cases hin : k.size ≤ 1048576 ∧ ns.size ≤ 1048576 ∧ nm.size ≤ 1048576 ∧ src.size ≤ 1048576 ∧ s1.length ≤ 65536 ∧ s2.length ≤ 65536 ∧ s3.length ≤ 65536
  · obtain ⟨q1, q2, q3, q4, q5, q6, q7⟩ := hin
    exact walk_in k ns nm src a1 a2 a3 p1 p2 p3 s1 s2 s3 nil w h1 h2 h3 q5 q6 q7 q1 q2 q3 q4 z1 z2 z3 o1 o2 o3
  · exact walk_out k ns nm src a1 a2 a3 p1 p2 p3 s1 s2 s3 nil w h1 h2 h3 m1 m2 m3 hin

theorem own : ownKnob Trym.prog.godebug = none := by kernel_rfl
theorem laidOut : laidOutB Trym.prog = true := by kernel_rfl
theorem cells9 : Trym.prog.cellsOf 9 = 1 := by kernel_rfl

theorem open_row {H : Type} {enc : TypeId × Value → H} {W : World} {base : Nat} {held : Bool} {fuel : Nat} {a : Option Addr} {len cap : Nat} {x : DataW H × List MemPlace}
    (hf : DataW.trod enc Trym.prog W base (fun _ => true) held fuel 22 [.slice a len cap] = some x) :
    ∃ s : List ByteArray, len = s.length ∧ InRow W a s ∧ s.length ≤ maxLen ∧ (∀ y ∈ s, y.size ≤ maxLen) ∧ (a = none → s = []) := by
  rcases open_strings Trym.underlying22 Trym.underlying9 cells9 hf with ⟨hcs, _⟩ | ⟨b, l, c, ss, hcs, _, hl, hm, hz, _, hcell, hws⟩
  · simp at hcs
    obtain ⟨rfl, rfl, rfl⟩ := hcs
    exact ⟨[], rfl, fun hp => absurd hp (by simp), Nat.zero_le _, by simp, fun _ => rfl⟩
  · simp at hcs
    obtain ⟨rfl, rfl, rfl⟩ := hcs
    have hz' : ss.length = cap := by simpa using hz
    have hlen : (ss.take len).length = len := by simp; omega
    refine ⟨ss.take len, hlen.symm, fun hp => ?_, by rw [hlen]; omega, fun y hy => hws y (List.mem_of_mem_take hy), fun h => by cases h⟩
    rw [hlen] at hp
    obtain ⟨blk, off, spot⟩ := b
    have h0 := hcell 0 (by omega)
    have hspot : spot = none := by simpa [Addr.add] using World.cell?_spot h0
    subst hspot
    refine ⟨blk, off, rfl, ?_, fun i hi => ?_⟩
    · exact World.block_lt_of_cell? W _ h0
    · rw [hlen] at hi
      rw [← Go.WideShapes.add_plain, hcell i (by omega)]
      simp [List.getD, hi]

set_option maxRecDepth 100000 in
theorem lifted (os : Os) (started : os.Started) (H : Type) (enc : TypeId × Value → H) :
    ReturnsInHanded {} Trym.checked os 3 .any (Rows.fnNewPolicyCompilerUnknownThenMissingSpec.pre6 enc Trym.prog Trym.f3 Rows.fnNewPolicyCompilerUnknownThenMissingRow.domain false) (Rows.fnNewPolicyCompilerUnknownThenMissingSpec.post enc Trym.prog Trym.f3 false true false false) := by
  refine returnsInHanded_of_change (C := Trym.checked) own started (by kernel_rfl) Trym.func3
    (ChangeSpec.witness6 (enc := enc) (C := Trym.checked) false ⟨#[], #[.string ByteArray.empty, .string ByteArray.empty, .string ByteArray.empty, .string ByteArray.empty, .slice none 0 0, .slice none 0 0, .slice none 0 0, .bool false], []⟩ 8 (by kernel_rfl) (by kernel_rfl) (by kernel_rfl) (by kernel_rfl)) ?_
  intro W base args ds gs before hval0 hW hcnd _
  have hval : ∀ (j : Nat) t v, Trym.f3.params[j]? = some t → args[j]? = some v → Value.okWide Trym.prog W .any base t v := hval0
  have hW' := hW
  obtain ⟨p, q, hA0, hV, rfl, hfz, hnd⟩ := hW
  have hA : DataW.TrodAll enc Trym.prog W 0 (fun _ => true) true Trym.f3.params.toList args.toList ds p := hA0
  rw [Trym.params3] at hA hval
  obtain ⟨v0, vs0, d0, ds0, p0, q0, hargs, rfl, rfl, h0, r0⟩ := trodAll_cons hA
  obtain ⟨v1, vs1, d1, ds1, p1, q1, rfl, rfl, rfl, h1, r1⟩ := trodAll_cons r0
  obtain ⟨v2, vs2, d2, ds2, p2, q2, rfl, rfl, rfl, h2, r2⟩ := trodAll_cons r1
  obtain ⟨v3, vs3, d3, ds3, p3, q3, rfl, rfl, rfl, h3, r3⟩ := trodAll_cons r2
  obtain ⟨v4, vs4, d4, ds4, p4, q4, rfl, rfl, rfl, h4, r4⟩ := trodAll_cons r3
  obtain ⟨v5, vs5, d5, ds5, p5, q5, rfl, rfl, rfl, h5, r5⟩ := trodAll_cons r4
  obtain ⟨v6, vs6, d6, ds6, p6, q6, rfl, rfl, rfl, h6, r6⟩ := trodAll_cons r5
  obtain ⟨v7, vs7, d7, ds7, p7, q7, rfl, rfl, rfl, h7, r7⟩ := trodAll_cons r6
  obtain ⟨rfl, rfl, rfl⟩ := trodAll_nil r7
  obtain rfl : args = #[v0, v1, v2, v3, v4, v5, v6, v7] := by cases args; simp_all
  obtain ⟨rfl, rfl⟩ := trodVars_none hV
  obtain ⟨x0, rfl, rfl, rfl, w0⟩ := open_string Trym.underlying9 (hval 0 9 v0 rfl rfl) h0
  obtain ⟨x1, rfl, rfl, rfl, w1⟩ := open_string Trym.underlying9 (hval 1 9 v1 rfl rfl) h1
  obtain ⟨x2, rfl, rfl, rfl, w2⟩ := open_string Trym.underlying9 (hval 2 9 v2 rfl rfl) h2
  obtain ⟨x3, rfl, rfl, rfl, w3⟩ := open_string Trym.underlying9 (hval 3 9 v3 rfl rfl) h3
  obtain ⟨a4, len4, cap4, rfl⟩ := okWide_slice Trym.underlying22 (hval 4 22 v4 rfl rfl)
  have k4 := h4
  have lt4 : ∀ x ∈ p4, x.block < W.heap.size := by obtain ⟨m, hm⟩ := k4; exact DataW.trod_lt m _ _ _ hm
  obtain ⟨s4, e4, i4, m4, z4, o4⟩ := (by obtain ⟨fuel, hf⟩ := h4; exact open_row hf : ∃ s : List ByteArray, len4 = s.length ∧ InRow W a4 s ∧ s.length ≤ maxLen ∧ (∀ y ∈ s, y.size ≤ maxLen) ∧ (a4 = none → s = []))
  obtain ⟨a5, len5, cap5, rfl⟩ := okWide_slice Trym.underlying22 (hval 5 22 v5 rfl rfl)
  have k5 := h5
  have lt5 : ∀ x ∈ p5, x.block < W.heap.size := by obtain ⟨m, hm⟩ := k5; exact DataW.trod_lt m _ _ _ hm
  obtain ⟨s5, e5, i5, m5, z5, o5⟩ := (by obtain ⟨fuel, hf⟩ := h5; exact open_row hf : ∃ s : List ByteArray, len5 = s.length ∧ InRow W a5 s ∧ s.length ≤ maxLen ∧ (∀ y ∈ s, y.size ≤ maxLen) ∧ (a5 = none → s = []))
  obtain ⟨a6, len6, cap6, rfl⟩ := okWide_slice Trym.underlying22 (hval 6 22 v6 rfl rfl)
  have k6 := h6
  have lt6 : ∀ x ∈ p6, x.block < W.heap.size := by obtain ⟨m, hm⟩ := k6; exact DataW.trod_lt m _ _ _ hm
  obtain ⟨s6, e6, i6, m6, z6, o6⟩ := (by obtain ⟨fuel, hf⟩ := h6; exact open_row hf : ∃ s : List ByteArray, len6 = s.length ∧ InRow W a6 s ∧ s.length ≤ maxLen ∧ (∀ y ∈ s, y.size ≤ maxLen) ∧ (a6 = none → s = []))
  obtain ⟨x7, rfl, rfl, rfl⟩ := open_bool Trym.underlying4 (hval 7 4 v7 rfl rfl) h7
  clear hA0 hval0
  refine (walk x0 x1 x2 x3 a4 a5 a6 len4 len5 len6 cap4 cap5 cap6 s4 s5 s6 x7 W e4 e5 e6 i4 i5 i6 m4 m5 m6 z4 z5 z6 o4 o5 o6).mono fun e W' ⟨he, bel⟩ => ?_
  subst he
  exact ⟨_, rfl, _, _, _, [], _, [], hW', trodAll_mk1 (shut_bool Trym.underlying4 _), (trodAll_cons_mk (shut_string Trym.underlying9 w0) (trodAll_cons_mk (shut_string Trym.underlying9 w1) (trodAll_cons_mk (shut_string Trym.underlying9 w2) (trodAll_cons_mk (shut_string Trym.underlying9 w3) (trodAll_cons_mk (Below.trod laidOut (by kernel_rfl) (of_decide_eq_true (by kernel_rfl)) k4 bel lt4) (trodAll_cons_mk (Below.trod laidOut (by kernel_rfl) (of_decide_eq_true (by kernel_rfl)) k5 bel lt5) (trodAll_cons_mk (Below.trod laidOut (by kernel_rfl) (of_decide_eq_true (by kernel_rfl)) k6 bel lt6) (trodAll_cons_mk (shut_bool Trym.underlying4 _) trodAll_mk0)))))))), rfl, bel.frame _, fun h => by cases h⟩

theorem over : Rows.fnNewPolicyCompilerUnknownThenMissingRow.holds Trym.pinned (OpenSpec.ofChange Rows.fnNewPolicyCompilerUnknownThenMissingSpec) :=
  OpenClaim.holds_of_wide 3 Trym.f3 rfl rfl rfl rfl rfl rfl rfl ⟨rfl, rfl, rfl, rfl, rfl⟩ rfl rfl rfl rfl rfl (by kernel_rfl) Trym.func3 (by kernel_rfl)
    (of_decide_eq_true (by kernel_rfl)) (by unfold Func.isWrapper; first | (rw [if_pos (by decide +kernel)]; kernel_rfl) | (rw [if_neg (by decide +kernel)]; exact ⟨rfl, rfl⟩))
    (fun os started H enc _ => lifted os started H enc)

/-- THE STATEMENT -/
theorem proved : Rows.FnNewPolicyCompilerUnknownThenMissingSaid := over
end Go.Proofs.Qxb6605513aMods.Pc
