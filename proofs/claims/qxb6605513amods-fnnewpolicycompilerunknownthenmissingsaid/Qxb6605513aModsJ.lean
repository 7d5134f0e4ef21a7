import Derived.Test.Qxb6605513aModsF
namespace Go.Proofs.Qxb6605513aMods.Pc
open Go.ChangeShapes Go.WideShapes Go.ChangeAt Go.RowKit

set_option maxHeartbeats 6400000 in
set_option maxRecDepth 100000 in
/-- where a guard shuts the input out -/
theorem walk_out (k ns nm src : ByteArray) (a1 a2 a3 : Option Addr) (p1 p2 p3 : Nat) (s1 s2 s3 : List ByteArray) (nil : Bool) (w : World)
    (h1 : InRow w a1 s1) (h2 : InRow w a2 s2) (h3 : InRow w a3 s3) (m1 : s1.length ≤ 9223372036854775807) (m2 : s2.length ≤ 9223372036854775807) (m3 : s3.length ≤ 9223372036854775807)
    (hout : ¬ (k.size ≤ 1048576 ∧ ns.size ≤ 1048576 ∧ nm.size ≤ 1048576 ∧ src.size ≤ 1048576 ∧ s1.length ≤ 65536 ∧ s2.length ≤ 65536 ∧ s3.length ≤ 65536)) :
    Calls Trym.prog 3 #[.string k, .string ns, .string nm, .string src, .slice a1 s1.length p1, .slice a2 s2.length p2, .slice a3 s3.length p3, .bool nil] w fun e w' => e = .returned (.bool true) ∧ Below w.heap.size w w' := by
  by_cases hk : k.size ≤ 1048576
  rotate_left
  · clear hout
    go_enter Trym.func3, Trym.ntmps3
    go_wp2_with fail
    refine (f4 k ns nm src a1 a2 a3 p1 p2 p3 s1 s2 s3 nil _ h1 h2 h3 m1 m2 m3).mono ?_
    rintro e w' ⟨hw, b, rfl⟩
    rw [hw]
    clear hw w'
    cases b with
    | false =>
      go_wp2
      go_ret
      exact ⟨rfl, Below.refl _ _⟩
    | true =>
      go_wp2
      go_ret
      exact ⟨rfl, Below.refl _ _⟩
  by_cases hns : ns.size ≤ 1048576
  rotate_left
  · clear hout
    go_enter Trym.func3, Trym.ntmps3
    go_wp2_with fail
    refine (f4 k ns nm src a1 a2 a3 p1 p2 p3 s1 s2 s3 nil _ h1 h2 h3 m1 m2 m3).mono ?_
    rintro e w' ⟨hw, b, rfl⟩
    rw [hw]
    clear hw w'
    cases b with
    | false =>
      go_wp2
      go_ret
      exact ⟨rfl, Below.refl _ _⟩
    | true =>
      go_wp2
      go_ret
      exact ⟨rfl, Below.refl _ _⟩
  by_cases hnm : nm.size ≤ 1048576
  rotate_left
  · clear hout
    go_enter Trym.func3, Trym.ntmps3
    go_wp2_with fail
    refine (f4 k ns nm src a1 a2 a3 p1 p2 p3 s1 s2 s3 nil _ h1 h2 h3 m1 m2 m3).mono ?_
    rintro e w' ⟨hw, b, rfl⟩
    rw [hw]
    clear hw w'
    cases b with
    | false =>
      go_wp2
      go_ret
      exact ⟨rfl, Below.refl _ _⟩
    | true =>
      go_wp2
      go_ret
      exact ⟨rfl, Below.refl _ _⟩
  by_cases hsrc : src.size ≤ 1048576
  rotate_left
  · clear hout
    go_enter Trym.func3, Trym.ntmps3
    go_wp2_with fail
    refine (f4 k ns nm src a1 a2 a3 p1 p2 p3 s1 s2 s3 nil _ h1 h2 h3 m1 m2 m3).mono ?_
    rintro e w' ⟨hw, b, rfl⟩
    rw [hw]
    clear hw w'
    cases b with
    | false =>
      go_wp2
      go_ret
      exact ⟨rfl, Below.refl _ _⟩
    | true =>
      go_wp2
      go_ret
      exact ⟨rfl, Below.refl _ _⟩
  by_cases l1 : s1.length ≤ 65536
  rotate_left
  · clear hout
    go_enter Trym.func3, Trym.ntmps3
    go_wp2_with fail
    refine (f4 k ns nm src a1 a2 a3 p1 p2 p3 s1 s2 s3 nil _ h1 h2 h3 m1 m2 m3).mono ?_
    rintro e w' ⟨hw, b, rfl⟩
    rw [hw]
    clear hw w'
    cases b with
    | false =>
      go_wp2
      go_ret
      exact ⟨rfl, Below.refl _ _⟩
    | true =>
      go_wp2
      go_ret
      exact ⟨rfl, Below.refl _ _⟩
  by_cases l2 : s2.length ≤ 65536
  rotate_left
  · clear hout
    go_enter Trym.func3, Trym.ntmps3
    go_wp2_with fail
    refine (f4 k ns nm src a1 a2 a3 p1 p2 p3 s1 s2 s3 nil _ h1 h2 h3 m1 m2 m3).mono ?_
    rintro e w' ⟨hw, b, rfl⟩
    rw [hw]
    clear hw w'
    cases b with
    | false =>
      go_wp2
      go_ret
      exact ⟨rfl, Below.refl _ _⟩
    | true =>
      go_wp2
      go_ret
      exact ⟨rfl, Below.refl _ _⟩
  by_cases l3 : s3.length ≤ 65536
  rotate_left
  · clear hout
    go_enter Trym.func3, Trym.ntmps3
    go_wp2_with fail
    refine (f4 k ns nm src a1 a2 a3 p1 p2 p3 s1 s2 s3 nil _ h1 h2 h3 m1 m2 m3).mono ?_
    rintro e w' ⟨hw, b, rfl⟩
    rw [hw]
    clear hw w'
    cases b with
    | false =>
      go_wp2
      go_ret
      exact ⟨rfl, Below.refl _ _⟩
    | true =>
      go_wp2
      go_ret
      exact ⟨rfl, Below.refl _ _⟩
  exact absurd ⟨hk, hns, hnm, hsrc, l1, l2, l3⟩ hout
end Go.Proofs.Qxb6605513aMods.Pc
