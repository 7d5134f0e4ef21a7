import Derived.Test.Qxb6605513aModsG
import Derived.Test.Qxb6605513aModsI
namespace Go.Proofs.Qxb6605513aMods.Pc
open Go.ChangeShapes Go.WideShapes Go.ChangeAt Go.RowKit

set_option maxHeartbeats 12800000 in
set_option maxRecDepth 100000 in
theorem walk_in (k ns nm src : ByteArray) (a1 a2 a3 : Option Addr) (p1 p2 p3 : Nat) (s1 s2 s3 : List ByteArray) (nil : Bool) (w : World)
    (h1 : InRow w a1 s1) (h2 : InRow w a2 s2) (h3 : InRow w a3 s3) (l1 : s1.length ≤ 65536) (l2 : s2.length ≤ 65536) (l3 : s3.length ≤ 65536)
    (hk : k.size ≤ 1048576) (hns : ns.size ≤ 1048576) (hnm : nm.size ≤ 1048576) (hsrc : src.size ≤ 1048576)
    (z1 : ∀ s ∈ s1, s.size ≤ maxLen) (z2 : ∀ s ∈ s2, s.size ≤ maxLen) (z3 : ∀ s ∈ s3, s.size ≤ maxLen)
    (n1 : a1 = none → s1 = []) (n2 : a2 = none → s2 = []) (n3 : a3 = none → s3 = []) :
    Calls Trym.prog 3 #[.string k, .string ns, .string nm, .string src, .slice a1 s1.length p1, .slice a2 s2.length p2, .slice a3 s3.length p3, .bool nil] w fun e w' => e = .returned (.bool true) ∧ Below w.heap.size w w' := by
  go_enter Trym.func3, Trym.ntmps3
  go_wp2_with fail
  refine (f4 k ns nm src a1 a2 a3 p1 p2 p3 s1 s2 s3 nil _ h1 h2 h3 (by omega) (by omega) (by omega)).mono ?_
  rintro e w' ⟨hw, b, rfl⟩
  rw [hw]
  clear hw w'
  cases b with
  | false =>
    go_wp2
    go_ret
    exact ⟨rfl, Below.refl _ _⟩
  | true =>
    go_wp2_with fail
    refine (f5 k ns nm src a1 a2 a3 p1 p2 p3 s1 s2 s3 _ h1 h2 h3 l1 l2 l3 hk hns hnm hsrc).mono ?_
    rintro e w' ⟨hw, b, rfl⟩
    rw [hw]
    clear hw w'
    cases b with
    | false =>
      go_wp2
      go_ret
      exact ⟨rfl, Below.refl _ _⟩
    | true =>
      go_wp2_with fail
      refine (f6 k _ _ hk (by omega) (by omega)).mono ?_
      rintro e w' ⟨hw, b, rfl⟩
      rw [hw]
      clear hw w'
      cases b with
      | false =>
        go_wp2
        go_ret
        exact ⟨rfl, Below.refl _ _⟩
      | true =>
        go_wp2_with fail
        refine (f7 a1 p1 s1 _ h1 z1 l1 n1).mono ?_
        rintro e w1 ⟨b1, c1, rfl, r1, hb1⟩
        go_wp2_with fail
        refine (f7 a2 p2 s2 _ (h2.keep hb1) z2 l2 n2).mono ?_
        rintro e w2 ⟨b2, c2, rfl, r2, hb2⟩
        go_wp2_with fail
        refine (f7 a3 p3 s3 _ ((h3.keep hb1).keep hb2) z3 l3 n3).mono ?_
        rintro e w3 ⟨b3, c3, rfl, r3, hb3⟩
        go_wp2_with fail
        refine (f8 b3 c3 s3 nil _ r3 l3).mono ?_
        rintro e w4 ⟨hb4, rt, rfl⟩
        go_wp2_with fail
        refine (f9 k src ns nm b1 b2 c1 c2 s1 s2 rt _ (((r1.keep hb2).keep hb3).keep hb4) ((r2.keep hb3).keep hb4) hk l1 l2).mono ?_
        rintro e w5 ⟨rfl, hb5, va, psa, ia⟩
        go_wp2_with fail
        refine (f9 k src ns nm b1 none c1 0 s1 [] rt _ ((((r1.keep hb2).keep hb3).keep hb4).keep hb5) (fun hp => absurd hp (by simp)) hk l1 (by simp)).mono ?_
        rintro e w6 ⟨rfl, hb6, vu, psu, iu⟩
        go_wp2_with fail
        refine (f9 k src ns nm none b2 0 c2 [] s2 rt _ (fun hp => absurd hp (by simp)) ((((r2.keep hb3).keep hb4).keep hb5).keep hb6) hk (by simp) l2).mono ?_
        rintro e w7 ⟨rfl, hb7, vm, psm, im⟩
        obtain ⟨qa, qu, qm, hL⟩ : ∃ qa qu qm, Lists w7 k src ns nm s1 s2 va vu vm qa qu qm := ⟨_, _, _, lists_mk ia iu im hb6 hb7⟩
        have hB : Below w.heap.size w w7 := by
          have e1 := hb1.size
          have e2 := hb2.size
          have e3 := hb3.size
          have e4 := hb4.size
          have e5 := hb5.size
          have e6 := hb6.size
          exact (((((hb1.trans (hb2.mono (by omega))).trans (hb3.mono (by omega))).trans (hb4.mono (by omega))).trans (hb5.mono (by omega))).trans (hb6.mono (by omega))).trans (hb7.mono (by omega))
        have r1' := (((((r1.keep hb2).keep hb3).keep hb4).keep hb5).keep hb6).keep hb7
        have r2' := ((((r2.keep hb3).keep hb4).keep hb5).keep hb6).keep hb7
        obtain ⟨aa, ca, hva, fa⟩ := hL.a
        obtain ⟨au, cu, hvu, fu⟩ := hL.u
        obtain ⟨am, cm, hvm, fm⟩ := hL.m
        have ca4 := ((ia.keep hb6).keep hb7).c4
        have cu4 := (iu.keep hb7).c4
        have cm4 := im.c4
        have ra := hL.ra
        have rb := hL.rb
        have ru := hL.ru
        have rm := hL.rm
        have nau := hL.au
        have nam := hL.am
        have num := hL.um
        rw [hva] at ca4
        rw [hvu] at cu4
        rw [hvm] at cm4
        clear hL ia iu im hva hvu hvm r1 r2 r3 hb1 hb2 hb3 hb4 hb5 hb6 hb7 h1 h2 h3 z1 z2 z3 n1 n2 n3
        go_wp2_with fail
        refine (f10 _ aa _ ca _ ca4).mono ?_
        rintro e w' ⟨rfl, hw⟩
        rw [hw]
        clear hw w'
        go_wp2_with fail
        refine (f10 _ au _ cu _ cu4).mono ?_
        rintro e w' ⟨rfl, hw⟩
        rw [hw]
        clear hw w'
        go_wp2_with fail
        refine (f10 _ am _ cm _ cm4).mono ?_
        rintro e w' ⟨rfl, hw⟩
        rw [hw]
        clear hw w' ca4 cu4 cm4
        go_wp2
        go_loopw [26] (fun i wr => ∃ (j : Nat), j ≤ s1.length ∧ i = .int .i64 j ∧ wr.heap = w7.heap ∧ Below w.heap.size w wr) (fun i _ => s1.length - (intOf i).toNat)
        case atStart => exact ⟨0, Nat.zero_le _, rfl, rfl, hB⟩
        case round =>
          obtain ⟨j, hj, rfl, hh, hbel⟩ := hrel
          have HH := hide hh
          by_cases hlt : j < s1.length
          · obtain ⟨ga, hga, hca⟩ := fa (by omega)
            obtain ⟨gu, hgu, hcu⟩ := fu (by omega)
            obtain ⟨gs, hgs, hls, hcs⟩ := r1' (by omega)
            have cw := cell_heap hh
            have x1 := (cw _).trans (hca j (by omega))
            have x2 := (cw _).trans (hcu j hlt)
            have x3 := (cw _).trans (hcs j hlt).1
            have x4 := ra j hlt
            have x5 := ru j hlt
            rw [← hh] at x4 x5
            have x6 := nau j j (by omega) hlt
            have i0 : (0 : Int) ≤ (j : Int) := Int.natCast_nonneg _
            have i1 : (j : Int) < (s1.length : Int) := by omega
            have i2 : (j : Int) < (s1.length : Int) + (s2.length : Int) := by omega
            generalize qa j = q1 at x1 x4 x6
            generalize qu j = q2 at x2 x5 x6
            generalize s1.getD j ByteArray.empty = f at x3 x4 x5
            obtain ⟨_, _, _, _, y4, _⟩ := rec_cells x4
            have e1 := fun m => eql33 (wr.drewN m) q1 q2 x6 x4 x5
            subst hga hgu hgs
            clear hca hcu hcs ra rb ru rm nau nam num fa fu fm r1' r2' hh cw
            go_wp2
            go_quiet ((go_at_call 11; exact Calls.quiet_of (f11 q1 q2 k src ns nm f (du k f) _ (by exact x4) (by exact x5))))
            go_wp2
            go_roundw
            case rel => exact ⟨j + 1, by omega, by go_num, unhide HH, below_drewN hbel _⟩
            case measure => simp [intOf]; omega
          · clear hh hB
            go_wp2
            go_loopw [27] (fun i wr => ∃ (j : Nat), j ≤ s2.length ∧ i = .int .i64 j ∧ wr.heap = w7.heap ∧ Below w.heap.size w wr) (fun i _ => s2.length - (intOf i).toNat)
            case atStart => exact ⟨0, Nat.zero_le _, rfl, unhide HH, hbel⟩
            case round =>
              clear HH hbel
              obtain ⟨j2, hj2, rfl, hh, hbel⟩ := hrel
              have HH := hide hh
              by_cases hlt2 : j2 < s2.length
              · obtain ⟨ga, hga, hca⟩ := fa (by omega)
                obtain ⟨gm, hgm, hcm⟩ := fm (by omega)
                obtain ⟨gs, hgs, hls, hcs⟩ := r2' (by omega)
                have cw := cell_heap hh
                have x1 := (cw _).trans (hca (s1.length + j2) (by omega))
                have x2 := (cw _).trans (hcm j2 hlt2)
                have x3 := (cw _).trans (hcs j2 hlt2).1
                have x4 := rb j2 hlt2
                have x5 := rm j2 hlt2
                rw [← hh] at x4 x5
                have x6 := nam (s1.length + j2) j2 (by omega) hlt2
                have i0 : (0 : Int) ≤ (j2 : Int) := Int.natCast_nonneg _
                have i1 : (j2 : Int) < (s2.length : Int) := by omega
                have i2 : (s1.length : Int) + (j2 : Int) < (s1.length : Int) + (s2.length : Int) := by omega
                have i3 : (0 : Int) ≤ (s1.length : Int) + (j2 : Int) := by omega
                have iw : IntKind.i64.wrap ((s1.length : Int) + (j2 : Int)) = (s1.length : Int) + (j2 : Int) := by simp [IntKind.wrap, IntKind.bits, IntKind.signed]; omega
                generalize qa (s1.length + j2) = q1 at x1 x4 x6
                generalize qm j2 = q2 at x2 x5 x6
                generalize s2.getD j2 ByteArray.empty = f at x3 x4 x5
                obtain ⟨_, _, _, _, y4, _⟩ := rec_cells x4
                have e1 := fun m => eql33 (wr.drewN m) q1 q2 x6 x4 x5
                subst hga hgm hgs
                clear hca hcm hcs ra rb ru rm nau nam num fa fu fm r1' r2' hh cw
                go_wp2
                go_quiet ((go_at_call 11; exact Calls.quiet_of (f11 q1 q2 k src ns nm f (dm k) _ (by exact x4) (by exact x5))))
                go_wp2
                go_roundw
                case rel => exact ⟨j2 + 1, by omega, by go_num, unhide HH, below_drewN hbel _⟩
                case measure => simp [intOf]; omega
              · clear hh
                by_cases hmn : s2.length < s1.length
                · skip
                  go_wp2
                  go_loopw [29] (fun i wr => ∃ (j : Nat), j ≤ s2.length ∧ i = .int .i64 j ∧ wr.heap = w7.heap ∧ Below w.heap.size w wr) (fun i _ => s2.length - (intOf i).toNat)
                  case atStart => exact ⟨0, Nat.zero_le _, rfl, unhide HH, hbel⟩
                  case round =>
                    clear HH hbel
                    obtain ⟨j3, hj3, rfl, hh, hbel⟩ := hrel
                    have HH := hide hh
                    have cw := cell_heap hh
                    by_cases hlt3 : j3 < s2.length
                    · obtain ⟨gu, hgu, hcu⟩ := fu (by omega)
                      obtain ⟨gm, hgm, hcm⟩ := fm (by omega)
                      have x1 := (cw _).trans (hcu j3 (by omega))
                      have x2 := (cw _).trans (hcm j3 (by omega))
                      have x4 := ru j3 (by omega)
                      have x5 := rm j3 (by omega)
                      rw [← hh] at x4 x5
                      have x6 := num j3 j3 (by omega) (by omega)
                      have i0 : (0 : Int) ≤ (j3 : Int) := Int.natCast_nonneg _
                      have i1 : (j3 : Int) < (s1.length : Int) := by omega
                      have i2 : (j3 : Int) < (s2.length : Int) := by omega
                      generalize qu j3 = q1 at x1 x4 x6
                      generalize qm j3 = q2 at x2 x5 x6
                      have e1 := fun m => eql33 (wr.drewN m) q1 q2 x6 x4 x5
                      subst hgu hgm
                      clear hcu hcm ra rb ru rm nau nam num fa fu fm r1' r2' hh cw
                      go_wp2
                      go_quiet (fail)
                      go_wp2
                      go_roundw
                      case rel => exact ⟨j3 + 1, by omega, by go_num, unhide HH, below_drewN hbel _⟩
                      case measure => simp [intOf]; omega
                    · by_cases hz1 : 0 < s1.length
                      · by_cases hz2 : 0 < s2.length
                        · obtain ⟨ga, hga, hca⟩ := fa (by omega)
                          have x1 := (cw _).trans (hca 0 (by omega))
                          have x2 := (cw _).trans (hca s1.length (by omega))
                          have x4 := ra 0 hz1
                          have x5 := rb 0 hz2
                          rw [Nat.add_zero] at x5
                          rw [← hh] at x4 x5
                          generalize qa 0 = q1 at x1 x4
                          generalize qa s1.length = q2 at x2 x5
                          generalize s1.getD 0 ByteArray.empty = f at x4
                          generalize s2.getD 0 ByteArray.empty = g at x5
                          obtain ⟨_, _, _, _, _, y1⟩ := rec_cells x4
                          obtain ⟨_, _, _, _, _, y2⟩ := rec_cells x5
                          have hdd := du_dm k f
                          have i0 : (0 : Int) < (s1.length : Int) := by omega
                          have i1 : (0 : Int) < (s2.length : Int) := by omega
                          have i2 : (s1.length : Int) < (s1.length : Int) + (s2.length : Int) := by omega
                          have i3 : (0 : Int) < (s1.length : Int) + (s2.length : Int) := by omega
                          generalize du k f = D1 at *
                          generalize dm k = D2 at *
                          subst hga
                          clear hca ra rb ru rm nau nam num fa fu fm r1' r2' hh cw x4 x5 HH
                          go_wp2
                          go_quiet (fail)
                          go_wp2
                          go_ret
                          exact ⟨rfl, below_drewN hbel _⟩
                        · have i1 : decide ((0 : Int) < (s2.length : Int)) = false := decide_eq_false (by omega)
                          clear ra rb ru rm nau nam num fa fu fm r1' r2' hh cw HH
                          go_wp2
                          go_quiet (fail)
                          go_wp2
                          go_ret
                          exact ⟨rfl, below_drewN hbel _⟩
                      · have i1 : decide ((0 : Int) < (s1.length : Int)) = false := decide_eq_false (by omega)
                        clear ra rb ru rm nau nam num fa fu fm r1' r2' hh cw HH
                        go_wp2
                        go_quiet (fail)
                        go_wp2
                        go_ret
                        exact ⟨rfl, below_drewN hbel _⟩
                · skip
                  go_wp2
                  go_loopw [29] (fun i wr => ∃ (j : Nat), j ≤ s1.length ∧ i = .int .i64 j ∧ wr.heap = w7.heap ∧ Below w.heap.size w wr) (fun i _ => s1.length - (intOf i).toNat)
                  case atStart => exact ⟨0, Nat.zero_le _, rfl, unhide HH, hbel⟩
                  case round =>
                    clear HH hbel
                    obtain ⟨j3, hj3, rfl, hh, hbel⟩ := hrel
                    have HH := hide hh
                    have cw := cell_heap hh
                    by_cases hlt3 : j3 < s1.length
                    · obtain ⟨gu, hgu, hcu⟩ := fu (by omega)
                      obtain ⟨gm, hgm, hcm⟩ := fm (by omega)
                      have x1 := (cw _).trans (hcu j3 (by omega))
                      have x2 := (cw _).trans (hcm j3 (by omega))
                      have x4 := ru j3 (by omega)
                      have x5 := rm j3 (by omega)
                      rw [← hh] at x4 x5
                      have x6 := num j3 j3 (by omega) (by omega)
                      have i0 : (0 : Int) ≤ (j3 : Int) := Int.natCast_nonneg _
                      have i1 : (j3 : Int) < (s1.length : Int) := by omega
                      have i2 : (j3 : Int) < (s2.length : Int) := by omega
                      generalize qu j3 = q1 at x1 x4 x6
                      generalize qm j3 = q2 at x2 x5 x6
                      have e1 := fun m => eql33 (wr.drewN m) q1 q2 x6 x4 x5
                      subst hgu hgm
                      clear hcu hcm ra rb ru rm nau nam num fa fu fm r1' r2' hh cw
                      go_wp2
                      go_quiet (fail)
                      go_wp2
                      go_roundw
                      case rel => exact ⟨j3 + 1, by omega, by go_num, unhide HH, below_drewN hbel _⟩
                      case measure => simp [intOf]; omega
                    · by_cases hz1 : 0 < s1.length
                      · by_cases hz2 : 0 < s2.length
                        · obtain ⟨ga, hga, hca⟩ := fa (by omega)
                          have x1 := (cw _).trans (hca 0 (by omega))
                          have x2 := (cw _).trans (hca s1.length (by omega))
                          have x4 := ra 0 hz1
                          have x5 := rb 0 hz2
                          rw [Nat.add_zero] at x5
                          rw [← hh] at x4 x5
                          generalize qa 0 = q1 at x1 x4
                          generalize qa s1.length = q2 at x2 x5
                          generalize s1.getD 0 ByteArray.empty = f at x4
                          generalize s2.getD 0 ByteArray.empty = g at x5
                          obtain ⟨_, _, _, _, _, y1⟩ := rec_cells x4
                          obtain ⟨_, _, _, _, _, y2⟩ := rec_cells x5
                          have hdd := du_dm k f
                          have i0 : (0 : Int) < (s1.length : Int) := by omega
                          have i1 : (0 : Int) < (s2.length : Int) := by omega
                          have i2 : (s1.length : Int) < (s1.length : Int) + (s2.length : Int) := by omega
                          have i3 : (0 : Int) < (s1.length : Int) + (s2.length : Int) := by omega
                          generalize du k f = D1 at *
                          generalize dm k = D2 at *
                          subst hga
                          clear hca ra rb ru rm nau nam num fa fu fm r1' r2' hh cw x4 x5 HH
                          go_wp2
                          go_quiet (fail)
                          go_wp2
                          go_ret
                          exact ⟨rfl, below_drewN hbel _⟩
                        · have i1 : decide ((0 : Int) < (s2.length : Int)) = false := decide_eq_false (by omega)
                          clear ra rb ru rm nau nam num fa fu fm r1' r2' hh cw HH
                          go_wp2
                          go_quiet (fail)
                          go_wp2
                          go_ret
                          exact ⟨rfl, below_drewN hbel _⟩
                      · have i1 : decide ((0 : Int) < (s1.length : Int)) = false := decide_eq_false (by omega)
                        clear ra rb ru rm nau nam num fa fu fm r1' r2' hh cw HH
                        go_wp2
                        go_quiet (fail)
                        go_wp2
                        go_ret
                        exact ⟨rfl, below_drewN hbel _⟩
end Go.Proofs.Qxb6605513aMods.Pc
