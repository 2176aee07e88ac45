/- FnLearnWriteScriptLatest, walked. -/
import Derived.Test.Qxb6605773aRows
import Derived.Test.Qxb6605773aBase
import Derived.Test.Qxb6605773aLast
import Derived.Test.Qxb6605773aFr1
import Derived.Test.Qxb6605773aFr2
import Derived.Test.Qxb6605773aFr3
import Derived.Test.Qxb6605773aFr4
import Derived.Test.Qxb6605773aFr5
import Derived.Test.Qxb6605773aFr6
import Derived.WalkKit
import Derived.WalkSpells
import Derived.WalkLawsBesides
import Derived.Deep.QuietTactic
import Derived.BigQuiet
import Derived.Deep.RegionWith
import Derived.Deep.DeepCutAuto
namespace Go.Proofs.Qxb6605773a
open Go.RowKit

/-- What the law answers. -/
def Good (w : World) (e : Ending) (w' : World) : Prop := e = .returned (.bool true) ∧ Below w.heap.size w w'

set_option maxRecDepth 100000 in
set_option maxHeartbeats 2000000 in
theorem learn_main (a : Option Addr) (ns cap : Nat) (ss : Nat → ByteArray) (me : Int) (a2 : Option Addr) (nw cap2 : Nat) (qs : Nat → WA) (w : World) (h : IsStrs w a ns ss) (h2 : IsWs w a2 nw qs) :
    Calls Try.prog 7 #[.slice a ns cap, .int .i64 me, .slice a2 nw cap2] w fun e w' => Good w e w' := by
  have n1 := h.len
  have n2 := h2.len
  have H := hide h
  have H2 := hide h2
  clear h h2
  go_enter Try.func7, Try.ntmps7
  go_wp2_with fail
  refine (bytes29 a ns cap ss me a2 nw cap2 qs w H.out H2.out).mono ?_
  rintro e w1 ⟨bb, rfl, rfl⟩
  cases bb with
  | false =>
    go_wp2_with fail
    go_ret
    exact ⟨rfl, Below.refl _ _⟩
  | true =>
    by_cases l1 : 4096 < ns
    · go_wp2_with fail
      go_ret
      exact ⟨rfl, Below.refl _ _⟩
    by_cases l2 : 4096 < nw
    · go_wp2_with fail
      go_ret
      exact ⟨rfl, Below.refl _ _⟩
    have b1 : decide ((4096 : Int) < (ns : Int)) = false := decide_eq_false (by omega)
    have b2 : decide ((4096 : Int) < (nw : Int)) = false := decide_eq_false (by omega)
    go_wp2_with fail
    go_loopw [7, 8] (fun t i wr => ∃ k s : Nat, k ≤ ns ∧ s ≤ 1048576 ∧ t = .int .i64 s ∧ i = .int .i64 k ∧ w = wr) (fun _ i _ => ns - (intOf i).toNat)
    case atStart => exact ⟨0, 0, by omega, by omega, rfl, rfl, rfl⟩
    case round =>
      obtain ⟨k, s, hk, hs, rfl, rfl, rfl⟩ := hrel
      by_cases hlt : k < ns
      · obtain ⟨b, off, rfl, hc⟩ := H.out.cells (by omega)
        have r0 := hc.2 k hlt
        have hz := H.out.sizes k hlt
        clear hc H H2
        generalize ss k = x at *
        by_cases l2 : 1048576 < x.size
        · go_wp2_with fail
          go_ret
          exact ⟨rfl, Below.refl _ _⟩
        by_cases l3 : 1048576 < s + (16 + x.size)
        · go_wp2_with fail
          go_ret
          exact ⟨rfl, Below.refl _ _⟩
        go_wp2_with fail
        go_roundw
        case rel => exact ⟨k + 1, s + (16 + x.size), by omega, by omega, by go_num, by go_num, by trivial⟩
        case measure => simp [intOf]; omega
      · go_wp2_with fail
        clear hlt hk
        go_loopw [7, 9] (fun t i wr => ∃ k s : Nat, k ≤ nw ∧ s ≤ 1048576 ∧ t = .int .i64 s ∧ i = .int .i64 k ∧ Hid (∀ i, i < k → (qs i).vl ≤ 1048576 ∧ (qs i).pl ≤ 131072) ∧ w.grownBy wr none) (fun _ i _ => nw - (intOf i).toNat)
        case atStart => exact ⟨0, s, by omega, by omega, rfl, rfl, fun i hi => absurd hi (by omega), World.grownBy.refl _ _⟩
        case round =>
          clear hs
          obtain ⟨k, s, hk, hs, rfl, rfl, HQ, G⟩ := hrel
          by_cases hlt : k < nw
          · obtain ⟨b, off, rfl, hb, hc⟩ := H2.out.cells (by omega)
            obtain ⟨r0, r1, r2, r3, r4, r5, r6, r7⟩ := (hc k hlt).grown G
            obtain ⟨y0, y5, y2, y7⟩ := H2.out.ok k hlt
            replace y2 := y2.1
            replace y7 := y7.le
            have HQ2 : (qs k).vl ≤ 1048576 ∧ (qs k).pl ≤ 131072 → Hid (∀ i, i < k + 1 → (qs i).vl ≤ 1048576 ∧ (qs i).pl ≤ 131072) := fun h => all_succ HQ.out h
            clear hc H2 H HQ
            generalize qs k = q at *
            go_wp2_with fail
            refine (writeBytes q _ y0 y5 y2 y7).mono ?_
            rintro e w2 ⟨r, rfl, hr1, hr2, G2⟩
            have G3 := grown_trans G G2
            clear r0 r1 r2 r3 r4 r5 r6 r7 G G2
            by_cases l3 : 1048576 < s + r
            · clear hr2 HQ2
              go_wp2_with fail
              go_ret
              exact ⟨rfl, belowOf G3⟩
            have HQ3 := HQ2 (hr2 (by omega))
            clear HQ2 hr2
            go_wp2_with fail
            go_roundw
            case rel => exact ⟨k + 1, s + r, by omega, by omega, by go_num, by go_num, HQ3, G3⟩
            case measure => simp [intOf]; omega
          · obtain rfl : nw = k := by omega
            clear hlt hk hs
            by_cases m1 : me < 0
            · go_wp2_with fail
              go_ret
              exact ⟨rfl, belowOf G⟩
            by_cases m2 : (ns : Int) ≤ me
            · go_wp2_with fail
              go_ret
              exact ⟨rfl, belowOf G⟩
            have b3 : decide (me < 0) = false := decide_eq_false m1
            have b4 : decide ((ns : Int) ≤ me) = false := decide_eq_false m2
            obtain ⟨b, off, rfl, hc⟩ := H.out.cells (by omega)
            have HS := hide (hc.grown G)
            have HS0 := hide hc
            clear H hc
            go_wp2_with fail
            refine (sortedDistinct b off ns cap ss _ HS.out (by omega)).mono ?_
            rintro e w2 ⟨bb, rfl, hso, nq, rfl⟩
            cases bb with
            | false =>
              clear hso
              go_wp2_with fail
              go_ret
              exact ⟨rfl, belowOf (grown_trans G (grown_dN _ _))⟩
            | true =>
              have HD := hide (hso rfl).distinct
              clear hso
              have G1 := grown_trans G (grown_dN wr nq)
              have HS1 := hide (HS.out.grown (grown_dN wr nq))
              clear HS G
              generalize wr.drewN nq = W at *
              clear b1 b2 b3 b4
              go_upto_region 24 with fail
              go_cut [10] (fun p wx => ∃ F N Wr, p = .pointer (some ⟨F, 0, none⟩) ∧ FRel w wx F N Wr ns me ss (fun _ => (0, true, [])))
              case first =>
                have HM := make58 ns (by omega)
                have hA : IsSites W.drew b off ns ss := HS1.out
                have hB : ∀ o, IsSites (W.drew.alloc o) b off ns ss := fun o => hA.grown (World.grownBy_alloc _ _ _)
                have HA := hide hA
                have HB := hide hB
                clear hA hB HS1
                go_region_with (first
                  | (go_at_call 23; refine (cloneS b off ns cap ss _ ?_ (by omega)).mono ?_; (first | exact HA.out | exact HB.out _); rintro e w1 ⟨rfl, g1, l1, c1⟩; have C1 := hide c1; clear c1)
                  | (go_at_call 22; refine (newFrontier _ _ _ ns me).mono ?_; rintro e w3 ⟨rfl, g3, l3, f0, f2, f3⟩))
                all_goals go_wp2_with fail
                all_goals go_meet
                all_goals first
                  | exact ⟨(w1.alloc (newWr ns)).heap.size, _, _, by simp, FRel.ordA G1 g1 l1 C1.out g3 l3 f0 f2 f3⟩
                  | exact ⟨w1.heap.size, _, _, by simp, FRel.ordB G1 g1 l1 C1.out g3 l3 f0 f2 f3⟩
              case rest =>
                obtain ⟨F, N, Wr, rfl, FR⟩ := hcut
                have FR0 : Hid (FRel w wc F N Wr ns me ss (entTo ss me qs 0)) := FR
                clear FR HS1 G1
                go_wp2_with fail
                go_loopw [11] (fun i wr => ∃ k : Nat, k ≤ nw ∧ i = .int .i64 k ∧ Hid (FRel w wr F N Wr ns me ss (entTo ss me qs k))) (fun i _ => nw - (intOf i).toNat)
                case atStart => exact ⟨0, by omega, rfl, FR0⟩
                case round =>
                  clear FR0
                  obtain ⟨k, hk, rfl, FR⟩ := hrel
                  by_cases hlt : k < nw
                  · obtain ⟨b2, off2, rfl, hb, hc⟩ := H2.out.cells (by omega)
                    obtain ⟨r0, r1, r2, r3, r4, r5, r6, r7⟩ := (hc k hlt).grown FR.out.grown
                    have hok := hide ((H2.out.ok k hlt).grown FR.out.grown)
                    obtain ⟨q1, q2⟩ := HQ.out k hlt
                    have EE : Hid (entTo ss me qs (k + 1) = learnt ss me (qs k).site ((qs k).t, (qs k).pa.isNone, (qs k).pz) (entTo ss me qs k)) := rfl
                    clear hc
                    generalize qs k = q at *
                    generalize entTo ss me qs k = E at *
                    clear H2 HQ
                    go_wp2_with fail
                    refine (toWrite q _ hok.out q1 q2).mono ?_
                    rintro e w2 ⟨va, vn, vc, pv, rfl, G2, ⟨pa, pn, pc, rfl⟩, HR⟩
                    have HR2 := hide (HR Wr FR.out.fs.lt.2.2)
                    have FR2 := hide (FR.out.kept G2)
                    clear HR FR G2 hok q1 q2 r0 r1 r2 r3 r4 r5 r6 r7
                    go_wp2_with fail
                    refine (zzLearn w _ F N Wr ns me ss E q.key q.site q.op q.delta q.t q.prev va vn vc pa pn pc q.pa.isNone q.pz FR2.out (by omega) HD.out (by omega) HR2.out).mono ?_
                    rintro e w4 ⟨rfl, FR4⟩
                    have FR3 : Hid (FRel w w4 F N Wr ns me ss (entTo ss me qs (k + 1))) := by rw [EE.out]; exact FR4
                    clear FR4 EE FR2 HR2
                    go_wp2_with fail
                    go_roundw
                    case rel => exact ⟨k + 1, by omega, by go_num, FR3⟩
                    case measure => simp [intOf]; omega
                  · obtain rfl : nw = k := by omega
                    clear hlt hk
                    go_wp2_with fail
                    go_loopw [12] (fun i wr => ∃ j : Nat, j ≤ ns ∧ i = .int .i64 j ∧ Hid (FRel w wr F N Wr ns me ss (entTo ss me qs nw))) (fun i _ => ns - (intOf i).toNat)
                    case atStart => exact ⟨0, by omega, rfl, FR⟩
                    case round =>
                      clear FR
                      obtain ⟨j, hj, rfl, FR⟩ := hrel
                      by_cases hlt : j < ns
                      · by_cases hme : (j : Int) = me
                        · have hb1 : ((j : Int) != me) = false := by simpa using hme
                          have HME := hide hme
                          clear hme
                          have EQ : Hid (entTo ss me qs nw j = (0, true, [])) := ent_self ss me qs j HME.out nw
                          have hent := FR.out.ents j hlt
                          rw [EQ.out] at hent
                          obtain ⟨pv, e0, e1, erd⟩ := hent
                          have c3 := FR.out.fs.wrote
                          have HRD : Hid (Rd wr Wr (.slice none 0 0) true []) := Rd.nil _ _
                          have HRE : Hid (Rd wr Wr pv true []) := erd
                          clear erd EQ
                          go_wp2_with fail
                          refine (wroteAt _ F Wr ns j 0 pv (by exact c3) hlt (by exact e0) (by exact e1)).mono ?_
                          rintro e w5 ⟨rfl, n5, rfl⟩
                          clear e0 e1 c3
                          go_wp2_with fail
                          refine (sameInts Wr Wr pv (.slice none 0 0) true [] _ (by exact HRE.out) (by exact HRD.out)).mono ?_
                          rintro e w6 ⟨rfl, n6, rfl⟩
                          clear HRD HRE
                          go_wp2_with fail
                          go_roundw
                          case rel => exact ⟨j + 1, by omega, by go_num, FR.out.kept ⟨rfl, rfl, rfl, Nat.le_refl _, fun _ _ _ => rfl⟩⟩
                          case measure => simp [intOf]; omega
                        · have hb1 : ((j : Int) != me) = true := by simpa using hme
                          go_wp2_with fail
                          go_loopw [13, 14, 15] (fun x v i wq => ∃ (k n : Nat) (z : Int), z = (k : Int) - 1 ∧ k ≤ nw ∧ x = .int .i64 0 ∧ v = .slice none 0 0 ∧ i = .int .i64 z ∧ Hid (∀ i, k ≤ i → i < nw → (qs i).site ≠ ss j) ∧ wq = wr.drewN n) (fun _ _ i _ => (intOf i + 1).toNat)
                          case atStart => exact ⟨nw, 0, (nw : Int) - 1, rfl, Nat.le_refl _, rfl, rfl, by go_num, fun i h1 h2 => absurd h1 (by omega), rfl⟩
                          case round =>
                            obtain ⟨k, n, z, hz, hk, rfl, rfl, rfl, HN, rfl⟩ := hrel
                            by_cases hk0 : k = 0
                            · subst hk0
                              obtain rfl : z = -1 := by omega
                              clear hz
                              have EQ : Hid (entTo ss me qs nw j = (0, true, [])) := ent_none ss me qs j nw (fun i hi => HN.out i (Nat.zero_le _) hi)
                              have hent := FR.out.ents j hlt
                              rw [EQ.out] at hent
                              obtain ⟨pv, e0, e1, erd⟩ := hent
                              have c3 := FR.out.fs.wrote
                              have HRD : Hid (Rd wr Wr (.slice none 0 0) true []) := Rd.nil _ _
                              have HRE : Hid (Rd wr Wr pv true []) := erd
                              clear erd EQ
                              go_wp2_with fail
                              refine (wroteAt _ F Wr ns j 0 pv (by exact c3) hlt (by exact e0) (by exact e1)).mono ?_
                              rintro e w5 ⟨rfl, n5, rfl⟩
                              clear e0 e1 c3
                              go_wp2_with fail
                              refine (sameInts Wr Wr pv (.slice none 0 0) true [] _ (by exact HRE.out) (by exact HRD.out)).mono ?_
                              rintro e w6 ⟨rfl, n6, rfl⟩
                              clear HRD HRE
                              go_wp2_with fail
                              go_roundw
                              case rel => exact ⟨j + 1, by omega, by go_num, FR.out.kept ⟨rfl, rfl, rfl, Nat.le_refl _, fun _ _ _ => rfl⟩⟩
                              case measure => simp [intOf]; omega
                            · obtain ⟨m, rfl⟩ : ∃ m, k = m + 1 := ⟨k - 1, by omega⟩
                              obtain rfl : z = (m : Int) := by omega
                              clear hz hk0
                              obtain ⟨b2, off2, rfl, hb, hc⟩ := H2.out.cells (by omega)
                              obtain ⟨_, _, _, _, r4, r5, _, r7⟩ := (hc m (by omega)).grown FR.out.grown
                              have s0 := (HS0.out.grown FR.out.grown).2 j hlt
                              have j0 : (0 : Int) ≤ (j : Int) := by omega
                              have j1 : (j : Int) < (ns : Int) := by omega
                              have i0 : (0 : Int) ≤ (m : Int) := by omega
                              have i1 : (m : Int) < (nw : Int) := by omega
                              clear hc
                              by_cases he : (qs m).site = ss j
                              · have HNL : Hid (∀ i, m < i → i < nw → (qs i).site ≠ ss j) := fun i h1 h2 => HN.out i h1 h2
                                have HP := hide (H2.out.ok m (by omega)).past
                                rw [he] at r5
                                clear HN
                                go_wp2_with fail
                                go_quiet (fail)
                                have EQ : Hid (entTo ss me qs nw j = ((qs m).t, (qs m).pa.isNone, (qs m).pz)) := by
                                                                  have := ent_last ss me qs j m hme he (nw - (m + 1)) (fun i h1 h2 => HNL.out i h1 (by omega))
                                                                  rwa [show m + 1 + (nw - (m + 1)) = nw by omega] at this
                                have hent := FR.out.ents j hlt
                                rw [EQ.out] at hent
                                obtain ⟨pv, e0, e1, erd⟩ := hent
                                have c3 := FR.out.fs.wrote
                                have HRD : Hid (Rd wr Wr (.slice (qs m).pa (qs m).pl (qs m).pc) (qs m).pa.isNone (qs m).pz) := Rd.ofInts HP.out FR.out.grown FR.out.base
                                have HRE : Hid (Rd wr Wr pv (qs m).pa.isNone (qs m).pz) := erd
                                clear erd EQ
                                go_wp2_with fail
                                refine (wroteAt _ F Wr ns j (qs m).t pv (by exact c3) hlt (by exact e0) (by exact e1)).mono ?_
                                rintro e w5 ⟨rfl, n5, rfl⟩
                                clear e0 e1 c3
                                go_wp2_with fail
                                refine (sameInts Wr Wr pv (.slice (qs m).pa (qs m).pl (qs m).pc) (qs m).pa.isNone (qs m).pz _ (by exact HRE.out) (by exact HRD.out)).mono ?_
                                rintro e w6 ⟨rfl, n6, rfl⟩
                                clear HRD HRE
                                go_wp2_with fail
                                go_roundw
                                case rel => exact ⟨j + 1, by omega, by go_num, FR.out.kept ⟨rfl, rfl, rfl, Nat.le_refl _, fun _ _ _ => rfl⟩⟩
                                case measure => simp [intOf]; omega
                              · have HN2 : Hid (∀ i, m ≤ i → i < nw → (qs i).site ≠ ss j) := fun i h1 h2 => by
                                  by_cases e : i = m
                                  · subst e; exact he
                                  · exact HN.out i (by omega) h2
                                have hbn := bytes_ne he
                                clear HN he r4 r7
                                generalize (qs m).site = x at *
                                generalize ss j = y at *
                                go_wp2_with fail
                                go_quiet (fail)
                                go_wp2_with fail
                                go_roundw
                                case rel => exact ⟨m, _, (m : Int) - 1, rfl, by omega, by trivial, by trivial, by go_num, HN2, rfl⟩
                                case measure => simp [intOf]
                      · go_wp2_with fail
                        go_ret
                        exact ⟨rfl, belowOf FR.out.grown⟩
end Go.Proofs.Qxb6605773a
