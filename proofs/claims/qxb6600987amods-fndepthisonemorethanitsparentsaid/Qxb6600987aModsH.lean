import Derived.Test.Qxb6600987aModsF
namespace Go.Proofs.Qxb6600987aMods.Pt
open Go.ChangeShapes Go.WideShapes Go.ChangeAt Go.RowKit Go.Maps Dp

set_option maxHeartbeats 400000 in
/-- 'zzMinIntB1' -/
theorem f14 (a b : Int) (w : World) : Calls Trym.prog 14 #[.int .i64 a, .int .i64 b] w fun e w' => e = .returned (.int .i64 (min a b)) ∧ w' = w := by
  by_cases h : a < b
  · have e : min a b = a := by omega
    rw [e]
    clear e
    go_enter Trym.func14, Trym.ntmps14
    go_wp2
    go_ret
    exact ⟨rfl, rfl⟩
  · have e : min a b = b := by omega
    rw [e]
    clear e
    go_enter Trym.func14, Trym.ntmps14
    go_wp2
    go_ret
    exact ⟨rfl, rfl⟩

set_option maxHeartbeats 3200000 in
set_option maxRecDepth 100000 in
theorem walk4in (a1 a2 : Option Addr) (p1 p2 : Nat) (l m : List Int) (x : Int) (w : World) (h1 : IntRow w a1 l) (h2 : IntRow w a2 m) (hlm : l.length = m.length) (hl : l.length ≤ 4096)
    (hw : ∀ x ∈ l, (Lit.int .i64 x).wf = true) (hwm : ∀ x ∈ m, (Lit.int .i64 x).wf = true) (hwx : (Lit.int .i64 x).wf = true) (n1 : a1 = none → l = []) (n2 : a2 = none → m = []) :
    Calls Trym.prog 4 #[.slice a1 l.length p1, .slice a2 m.length p2, .int .i64 x] w fun e w' => e = .returned (.bool true) ∧ Below w.heap.size w w' := by
  have hm : m.length ≤ 4096 := by omega
  have hne : ((l.length : Int) != (m.length : Int)) = false := by simp; omega
  have HE := hide hlm
  clear hlm
  go_enter Trym.func4, Trym.ntmps4
  go_wp2_with fail
  refine (f12 a1 a2 l.length m.length p1 p2 x _ (by omega) (by omega)).mono ?_
  rintro e w' ⟨hw', b, rfl⟩
  rw [hw']
  clear hw' w'
  cases b with
  | false =>
    go_wp2
    go_ret
    exact ⟨rfl, Below.refl _ _⟩
  | true =>
    go_wp2_with fail
    refine (f8 a1 p1 l _ h1 hl).mono ?_
    rintro e w0 ⟨hb0, he⟩
    rcases he with rfl | ⟨rfl, hap⟩
    · go_wp2
      go_ret
      exact ⟨rfl, hb0⟩
    · go_wp2_with fail
      refine (f9 a1 p1 l _ (h1.keep hb0) hl n1).mono ?_
      rintro e w1 ⟨b1, c1, rfl, r1, hb1⟩
      have hs0 := hb0.size
      have hs1 := hb1.size
      go_wp2_with fail
      refine (f9 a2 p2 m _ (h2.keep (hb0.trans (hb1.mono hs0))) hm n2).mono ?_
      rintro e w2 ⟨b2, c2, rfl, r2, hb2⟩
      have hs2 := hb2.size
      go_wp2_with fail
      refine (f10 b1 b2 c1 c2 l m x _ (r1.keep hb2) r2 (unhide HE) hl hap hw hwm hwx).mono ?_
      rintro e w3 ⟨rfl, hb3⟩
      have hs3 := hb3.size
      have hB3 : Below w.heap.size w w3 := ((hb0.trans (hb1.mono hs0)).trans (hb2.mono (by omega))).trans (hb3.mono (by omega))
      have q1 := (r1.keep hb2).keep hb3
      have q2 := r2.keep hb3
      have HP := hide hap
      clear hap r1 r2 hb0 hb1 hb2 hb3 h1 h2 n1 n2
      have hd := dep_le (lk l m) l.length x
      go_wp2_with fail
      refine (f13 b1 c1 l x _ q1 (by omega)).mono ?_
      rintro e w' ⟨rfl, hw'⟩
      rw [hw']
      clear hw' w'
      cases hx : idx l x with
      | none =>
        have hz : dep (lk l m) l.length x = 0 := dep_none _ _ _ (by simp [lk, hx])
        rw [ixv_none hx, hz]
        clear hx hz hd
        go_wp2
        go_ret
        exact ⟨rfl, hB3⟩
      | some i =>
        have hil := (idx_some l _ i hx).1
        have hil2 : i < m.length := by rw [← unhide HE]; exact hil
        obtain ⟨b, off, ha, hlb, hcells⟩ := q2 (by omega)
        have hcell := hcells i hil2
        have hwy : (Lit.int .i64 (m.getD i 0)).wf = true := hwm _ (by simp [List.getD, hil2])
        have hstep : dep (lk l m) l.length x = dep (lk l m) (l.length - 1) (m.getD i 0) + 1 := by
          have := dep_some (lk l m) (l.length - 1) x (m.getD i 0) (lk_of_idx hx)
          rw [show l.length - 1 + 1 = l.length by omega] at this
          exact this
        have hmin : dep (lk l m) (l.length - 1) (m.getD i 0) = min (dep (lk l m) l.length (m.getD i 0)) (l.length - 1) := by
          have := dep_min (lk l m) (l.length - 1) (m.getD i 0)
          rw [show l.length - 1 + 1 = l.length by omega] at this
          exact this
        rw [ixv_some hx]
        generalize m.getD i 0 = y at *
        have HM := hide hmin
        have HT := hide hstep
        clear hcells hx hmin hstep
        subst ha
        go_wp2_with fail
        refine (f13 b1 c1 l y _ q1 (by omega)).mono ?_
        rintro e w' ⟨rfl, hw'⟩
        rw [hw']
        clear hw' w'
        cases hy : idx l y with
        | none =>
          have hz : dep (lk l m) l.length x = 1 := by rw [unhide HT, dep_none _ _ _ (by simp [lk, hy])]
          rw [ixv_none hy, hz]
          clear hy hz hd HT HM
          go_wp2
          go_ret
          exact ⟨rfl, hB3⟩
        | some j =>
          rw [ixv_some hy]
          have hu := dep_le (lk l m) l.length y
          clear hy
          go_wp2_with fail
          refine (f10 b1 (some ⟨b, off, none⟩) c1 c2 l m y _ q1 q2 (unhide HE) hl (unhide HP) hw hwm hwy).mono ?_
          rintro e w4 ⟨rfl, hb4⟩
          have hB4 := hB3.trans (hb4.mono (by omega))
          have hfin : dep (lk l m) l.length x = min (dep (lk l m) l.length y) (l.length - 1) + 1 := by rw [unhide HT, unhide HM]
          generalize dep (lk l m) l.length y = u at *
          generalize dep (lk l m) l.length x = d at *
          have HF := hide hfin
          clear hfin HM HT hb4
          go_wp2_with fail
          refine (f14 _ _ _).mono ?_
          rintro e w' ⟨rfl, hw'⟩
          rw [hw']
          clear hw' w'
          have heq : ((d : Int) - 1 == min (u : Int) ((l.length : Int) - 1)) = true := by
            have := unhide HF
            rw [beq_iff_eq]
            omega
          go_wp2
          go_ret
          exact ⟨rfl, hB4⟩

set_option maxHeartbeats 1600000 in
set_option maxRecDepth 100000 in
theorem walk4out (a1 a2 : Option Addr) (n1 n2 p1 p2 : Nat) (x : Int) (w : World) (h1 : n1 ≤ 9223372036854775807) (h2 : n2 ≤ 9223372036854775807) (hout : ¬ (n1 = n2 ∧ n1 ≤ 4096)) :
    Calls Trym.prog 4 #[.slice a1 n1 p1, .slice a2 n2 p2, .int .i64 x] w fun e w' => e = .returned (.bool true) ∧ Below w.heap.size w w' := by
  by_cases c1 : n1 ≤ 4096
  · by_cases c2 : n2 ≤ 4096
    · have hne : ((n1 : Int) != (n2 : Int)) = true := by simp; omega
      clear hout
      go_enter Trym.func4, Trym.ntmps4
      go_wp2_with fail
      refine (f12 a1 a2 n1 n2 p1 p2 x _ h1 h2).mono ?_
      rintro e w' ⟨hw', b, rfl⟩
      rw [hw']
      clear hw' w'
      cases b with
      | false =>
        go_wp2
        go_ret
        exact ⟨rfl, Below.refl _ _⟩
      | true =>
        go_wp2
        go_ret
        exact ⟨rfl, Below.refl _ _⟩
    · clear hout
      go_enter Trym.func4, Trym.ntmps4
      go_wp2_with fail
      refine (f12 a1 a2 n1 n2 p1 p2 x _ h1 h2).mono ?_
      rintro e w' ⟨hw', b, rfl⟩
      rw [hw']
      clear hw' w'
      cases b with
      | false =>
        go_wp2
        go_ret
        exact ⟨rfl, Below.refl _ _⟩
      | true =>
        go_wp2
        go_ret
        exact ⟨rfl, Below.refl _ _⟩
  · clear hout
    go_enter Trym.func4, Trym.ntmps4
    go_wp2_with fail
    refine (f12 a1 a2 n1 n2 p1 p2 x _ h1 h2).mono ?_
    rintro e w' ⟨hw', b, rfl⟩
    rw [hw']
    clear hw' w'
    cases b with
    | false =>
      go_wp2
      go_ret
      exact ⟨rfl, Below.refl _ _⟩
    | true =>
      go_wp2
      go_ret
      exact ⟨rfl, Below.refl _ _⟩
end Go.Proofs.Qxb6600987aMods.Pt
