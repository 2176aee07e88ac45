/- FnClockSetScriptLastWins, walked. -/
import Derived.Test.Qxb6605773aRows
import Derived.Test.Qxb6605773aBase
import Derived.Test.Qxb6605773aClock
import Derived.Test.Qxb6605773aCloneInts
import Derived.Test.Qxb6605773aScript
import Derived.WalkKit
import Derived.WalkSpells
import Derived.WalkLawsBesides
import Derived.Deep.RegionWith
import Derived.Deep.QuietTactic
import Derived.BigQuiet
import Derived.BigRegion
namespace Go.Proofs.Qxb6605773a
open Go.RowKit

theorem Try.info4 : (Try.prog.info? 4).map (fun i => (i.zero, i.size, i.bytes)) = some (some (.bool false), 1, 1) := by kernel_rfl

/-- It answers some bool; the world stands. -/
def AnyBool (w : World) (e : Ending) (w' : World) : Prop := ∃ bb, e = .returned (.bool bb) ∧ w = w'

set_option maxHeartbeats 400000 in
/-- zzBytes_FnClockSetScriptLastWins -/
theorem bytes11 (a : Option Addr) (len cap : Nat) (a2 : Option Addr) (nn cap2 : Nat) (w : World) (hl : len ≤ 9223372036854775807) (hl2 : nn ≤ 9223372036854775807) :
    Calls Try.prog 11 #[.slice a len cap, .slice a2 nn cap2] w fun e w' => AnyBool w e w' := by
  by_cases h : len ≤ 1048576
  · by_cases h2 : nn ≤ 1048576
    · by_cases h3 : len + nn ≤ 1048576
      · go_enter Try.func11, Try.ntmps11
        go_wp2
        go_ret
        exact ⟨true, rfl, rfl⟩
      · go_enter Try.func11, Try.ntmps11
        go_wp2
        go_ret
        exact ⟨false, rfl, rfl⟩
    · go_enter Try.func11, Try.ntmps11
      go_wp2
      go_ret
      exact ⟨false, rfl, rfl⟩
  · go_enter Try.func11, Try.ntmps11
    go_wp2
    go_ret
    exact ⟨false, rfl, rfl⟩

/-- The ops that came in: nil, or nn pairs. -/
def IsOps (w : World) (a : Option Addr) (nn : Nat) (N T : Nat → Int) : Prop :=
  nn ≤ 9223372036854775807 ∧ (0 < nn → ∃ b off, a = some ⟨b, off, none⟩ ∧ b < w.heap.size ∧ ∀ i, i < nn → w.cell? ⟨b, off + i * 2, none⟩ = some (.int .i64 (N i)) ∧ w.cell? ⟨b, off + i * 2 + 1, none⟩ = some (.int .i64 (T i)))

theorem IsInts.get {w : World} {a : Option Addr} {len cap : Nat} {zs : List Int} (h : IsInts w a len cap zs) : 0 < len → ∃ b off, a = some ⟨b, off, none⟩ ∧ b < w.heap.size ∧ ∀ i, i < len → w.cell? ⟨b, off + i, none⟩ = some (.int .i64 (zs.getD i 0)) := by
  intro h0
  rcases h.2 with ⟨_, h1, _⟩ | ⟨⟨b, off, spot⟩, rfl, _, hx⟩
  · omega
  · obtain ⟨hs, hb, hc⟩ := hx h0
    simp only at hs hb hc
    subst hs
    exact ⟨b, off, rfl, hb, hc⟩
theorem IsInts.le {w : World} {a : Option Addr} {len cap : Nat} {zs : List Int} (h : IsInts w a len cap zs) : len ≤ 9223372036854775807 := by
  rcases h.2 with ⟨_, h0, _⟩ | ⟨_, _, h0, _⟩
  · omega
  · exact h0

set_option maxRecDepth 100000 in
set_option maxHeartbeats 1000000 in
theorem last_main (a : Option Addr) (len cap : Nat) (zs : List Int) (a2 : Option Addr) (nn cap2 : Nat) (N T : Nat → Int) (w : World) (h : IsInts w a len cap zs) (h2 : IsOps w a2 nn N T) :
    Calls Try.prog 4 #[.slice a len cap, .slice a2 nn cap2] w fun e w' => e = .returned (.bool true) ∧ Below w.heap.size w w' := by
  have HI := hide h
  have hzl : zs.length = len := h.1
  have HX := hide h.get
  have HX2 := hide h2.2
  have hlen := h.le
  have hnn := h2.1
  clear h h2
  go_enter Try.func4, Try.ntmps4
  go_wp2_with fail
  refine (bytes11 a len cap a2 nn cap2 w hlen hnn).mono ?_
  rintro e w1 ⟨bb, rfl, rfl⟩
  cases bb with
  | false =>
    go_wp2_with fail
    go_ret
    exact ⟨rfl, Below.refl _ _⟩
  | true =>
    by_cases k1 : 131072 < len
    · go_wp2_with fail
      go_ret
      exact ⟨rfl, Below.refl _ _⟩
    by_cases k2 : 65536 < nn
    · go_wp2_with fail
      go_ret
      exact ⟨rfl, Below.refl _ _⟩
    by_cases k3 : 1048576 < 8 * len + 16 * nn
    · go_wp2_with fail
      go_ret
      exact ⟨rfl, Below.refl _ _⟩
    by_cases k4 : 4096 < nn
    · go_wp2_with fail
      go_ret
      exact ⟨rfl, Below.refl _ _⟩
    have b1 : decide ((131072 : Int) < (len : Int)) = false := decide_eq_false (by omega)
    have b2 : decide ((65536 : Int) < (nn : Int)) = false := decide_eq_false (by omega)
    have b3 : decide ((1048576 : Int) < 8 * (len : Int) + 16 * (nn : Int)) = false := decide_eq_false (by omega)
    have b4 : decide ((4096 : Int) < (nn : Int)) = false := decide_eq_false (by omega)
    go_wp2_with fail
    go_loop [5] (fun i => ∃ k : Nat, k ≤ nn ∧ i = .int .i64 k ∧ Hid (∀ j, j < k → 0 ≤ N j ∧ N j ≤ 65536)) (fun i => nn - (intOf i).toNat)
    case atStart => exact ⟨0, Nat.zero_le _, rfl, fun j hj => absurd hj (by omega)⟩
    case round =>
      obtain ⟨k, hk, rfl, HN⟩ := hrel
      by_cases hlt : k < nn
      · obtain ⟨b, off, rfl, hb, hc⟩ := HX2.out (by omega)
        have r0 := (hc k hlt).1
        have HS : 0 ≤ N k ∧ N k ≤ 65536 → Hid (∀ j, j < k + 1 → 0 ≤ N j ∧ N j ≤ 65536) := fun h => all_succ HN.out h
        clear hc HX2 HI HX
        generalize N k = x at *
        by_cases c1 : x < 0
        · go_wp2
          go_ret
          exact ⟨rfl, Below.refl _ _⟩
        by_cases c2 : 65536 < x
        · go_wp2
          go_ret
          exact ⟨rfl, Below.refl _ _⟩
        have HS2 := HS ⟨by omega, by omega⟩
        clear HS
        go_wp2
        go_round
        case rel => exact ⟨k + 1, by omega, by go_num, HS2⟩
        case measure => simp [intOf]; omega
      · obtain rfl : nn = k := by omega
        go_wp2_with fail
        refine (cloneI a len cap zs w HI.out (by omega)).mono ?_
        rintro e w1 ⟨v1, rfl, O1, G1, hnil⟩
        have B1 : Below w.heap.size w w1 := (Below.refl _ _).grown G1 (Nat.le_refl _) (fun k hk => by cases hk)
        clear G1 HI hnil hlt hk
        obtain ⟨M, HM⟩ : ∃ M : Nat → Nat, Hid (∀ j, j < nn → N j = (M j : Int) ∧ M j ≤ 65536) := ⟨fun j => (N j).toNat, fun j hj => by have := HN.out j hj; simp only; omega⟩
        clear HN
        go_wp2_with fail
        go_loopw [6, 7] (fun v i wr => ∃ k : Nat, k ≤ nn ∧ i = .int .i64 k ∧ wr.ownsRow w.heap.size 2 1 v (scr zs M T k).length (ints (scr zs M T k)) ∧ Below w.heap.size w wr) (fun _ i _ => nn - (intOf i).toNat)
        case atStart => exact ⟨0, Nat.zero_le _, rfl, O1, B1⟩
        case round =>
          clear O1 B1
          obtain ⟨k, hk, rfl, O1, B1⟩ := hrel
          by_cases hlt : k < nn
          · obtain ⟨b, off, rfl, hb, hc⟩ := HX2.out (by omega)
            have r0 := (hc k hlt).1
            have r1 := (hc k hlt).2
            rw [← B1.cell (p := ⟨b, off + k * 2, none⟩) hb, (HM.out k hlt).1] at r0
            rw [← B1.cell (p := ⟨b, off + k * 2 + 1, none⟩) hb] at r1
            have hM := (HM.out k hlt).2
            have ES : Hid (scr zs M T (k + 1) = setAt (scr zs M T k) (M k) (T k)) := rfl
            have i0 : (0 : Int) ≤ (k : Int) := by omega
            have i1 : (k : Int) < (nn : Int) := by omega
            clear hc HX2 HX
            generalize M k = m at *
            generalize T k = t at *
            go_wp2_with fail
            go_region_with (go_at_call 9; refine (zzclockSet w.heap.size m t (scr zs M T k) _ _ (by exact B1.size) (by exact O1) hM).mono ?_; rintro e w2 ⟨⟨v2, rfl, O2⟩, B2⟩)
            all_goals go_wp2_with fail
            all_goals exact ⟨⟨k + 1, by omega, by go_num, by rw [ES.out]; exact O2, B1.drew.trans B2⟩, by simp [intOf]; omega⟩
          · obtain rfl : nn = k := by omega
            clear hlt hk
            have hW := scr_length zs M T nn
            rw [hzl] at hW
            have HWL := hide (wantTo_le len M (by omega) nn (fun j hj => (HM.out j hj).2))
            have HSC : Hid (∀ i, i < (scr zs M T nn).length → tchd M i nn = false → (scr zs M T nn).getD i 0 = zs.getD i 0) := fun i _ h => scr_untouched zs M T i nn h
            have HSL : Hid (∀ k, k < nn → (∀ j, k < j → j < nn → M j ≠ M k) → (scr zs M T nn).getD (M k) 0 = T k) := fun k hk h => scr_last zs M T k nn h nn (by omega) (Nat.le_refl _)
            have HGT : Hid (∀ k, k < nn → M k < wantTo len M nn) := fun k hk => wantTo_gt len M k nn hk
            rw [hW] at O1 HSC
            generalize scr zs M T nn = Z at *
            obtain ⟨av, cv, rfl⟩ := own_form O1
            go_wp2_with fail
            go_loop [8, 9] (fun q i => ∃ k : Nat, k ≤ nn ∧ i = .int .i64 k ∧ q = .int .i64 (wantTo len M k)) (fun _ i => nn - (intOf i).toNat)
            case atStart => exact ⟨0, Nat.zero_le _, rfl, rfl⟩
            case round =>
              obtain ⟨k, hk, rfl, rfl⟩ := hrel
              by_cases hlt : k < nn
              · obtain ⟨b, off, rfl, hb, hc⟩ := HX2.out (by omega)
                have r0 := (hc k hlt).1
                rw [← B1.cell (p := ⟨b, off + k * 2, none⟩) hb, (HM.out k hlt).1] at r0
                have hM := (HM.out k hlt).2
                have EW : Hid (wantTo len M (k + 1) = max (wantTo len M k) (M k + 1)) := rfl
                have hWk := wantTo_le len M (by omega) k (fun j hj => (HM.out j (by omega)).2)
                clear hc HX2 HX O1
                generalize M k = m at *
                generalize wantTo len M k = q at *
                by_cases hq : q < m + 1
                · go_wp2_with fail
                  go_round
                  case rel => exact ⟨k + 1, by omega, by go_num, by rw [EW.out, show max q (m + 1) = m + 1 from by omega]; go_num⟩
                  case measure => simp [intOf]; omega
                · go_wp2_with fail
                  go_round
                  case rel => exact ⟨k + 1, by omega, by go_num, by rw [EW.out, show max q (m + 1) = q from by omega]⟩
                  case measure => simp [intOf]; omega
              · obtain rfl : nn = k := by omega
                have hge := wantTo_ge len M nn
                generalize wantTo len M nn = L at *
                have hL := HWL.out
                obtain ⟨i4, hi, hz0, hz1, hz2⟩ := info_parts Try.info4
                go_wp2_with (at_make; refine wpList_make_full _ rfl _ _ 30 rfl wr.heap.size 4 i4 (.bool false) 1 Try.underlying30 hi hz0 hz1 _ _ _ _ L rfl rfl rfl rfl (by rw [hz2]; omega) (by unfold maxLen; omega) (Nat.le_refl _) ?_; intro w3 hown hgrow)
                clear hi hz0 hz1 hz2 i4 HWL
                have O3 : w3.ownsRow w.heap.size 2 1 (.slice av L cv) L (ints Z) := O1.kept hgrow (by cases hv : (Value.slice av L cv).ownBlock <;> simp)
                have B3 : Below w.heap.size w w3 := B1.grown hgrow B1.size (fun k hk => by cases hk)
                have hTB : w.heap.size ≤ wr.heap.size := B1.size
                have F3 := hide (made_flags L M)
                clear hgrow O1 B1
                generalize (madeCells (Value.bool false).cells (L * 1)).toList = xs0 at *
                generalize wr.heap.size = TB at *
                go_loopw [11] (fun i wr => ∃ (k : Nat) (xs : List Value), k ≤ nn ∧ i = .int .i64 k ∧ wr.ownsRow TB 4 1 (.slice (some ⟨TB, 0, none⟩) L L) L xs ∧ Hid (Flags xs M L k) ∧ wr.ownsRow w.heap.size 2 1 (.slice av L cv) L (ints Z) ∧ Below w.heap.size w wr) (fun i _ => nn - (intOf i).toNat)
                case atStart => exact ⟨0, xs0, Nat.zero_le _, rfl, hown, F3, O3, B3⟩
                case round =>
                  clear hown F3 O3 B3
                  obtain ⟨k, xs, hk, rfl, Ot, F4, Og, B4⟩ := hrel
                  by_cases hlt2 : k < nn
                  · obtain ⟨b, off, rfl, hb, hc⟩ := HX2.out (by omega)
                    have HR : Hid (∀ (wx : World), Below w.heap.size w wx → ∀ j, j < nn → wx.cell? ⟨b, off + j * 2, none⟩ = some (.int .i64 (M j)) ∧ wx.cell? ⟨b, off + j * 2 + 1, none⟩ = some (.int .i64 (T j))) := fun wx hx j hj => by
                      rw [hx.cell (p := ⟨b, off + j * 2, none⟩) hb, hx.cell (p := ⟨b, off + j * 2 + 1, none⟩) hb, (hc j hj).1, (HM.out j hj).1]
                      exact ⟨rfl, (hc j hj).2⟩
                    clear hc HX2 HX
                    have r0 := (HR.out wr B4 k hlt2).1
                    have hmL := HGT.out k hlt2
                    have F5 := hide (F4.out.step Ot.1)
                    obtain ⟨m, HMk⟩ : ∃ m, Hid (M k = m) := ⟨_, rfl⟩
                    rw [HMk.out] at r0 hmL F5
                    obtain ⟨x0, g0⟩ : ∃ x0, wr.cell? ⟨TB, m, none⟩ = some x0 := ⟨xs[m]'(by rw [Ot.1]; omega), by rw [Ot.cellAt m (by omega), List.getElem?_eq_getElem]⟩
                    have z0 : wr.frozen? ⟨TB, m, none⟩ = false := Ot.frozenAt m
                    have st := Ot.stored m (.bool true)
                    have Og5 := Og.kept st.2 (own_apart Og Ot (by decide))
                    have B5 := B4.setCell (p := ⟨TB, m, none⟩) hTB (.bool true)
                    have Ot5 := st.1
                    clear st F4
                    generalize xs.set m (.bool true) = xs5 at *
                    clear Ot Og B4
                    go_wp2_with fail
                    generalize wr.setCell ⟨TB, m, none⟩ (.bool true) = w4 at *
                    clear g0 z0 r0
                    go_loopw [12, 13] (fun lst i wx => ∃ (j n : Nat), k + 1 ≤ j ∧ j ≤ nn ∧ i = .int .i64 j ∧ lst = .bool true ∧ Hid (∀ q, k < q → q < j → M q ≠ m) ∧ wx = w4.drewN n) (fun _ i _ => nn - (intOf i).toNat)
                    case atStart => exact ⟨k + 1, 0, by omega, by omega, by go_num, rfl, fun q h1 h2 => absurd h1 (by omega), rfl⟩
                    case round =>
                      obtain ⟨j, n, hj1, hj2, rfl, rfl, HQ, rfl⟩ := hrel
                      have rk := (HR.out w4 B5 k hlt2).1
                      rw [HMk.out] at rk
                      by_cases hlt3 : j < nn
                      · have rj := (HR.out w4 B5 j hlt3).1
                        have HQ2 : ∀ x, M j = x → x ≠ m → Hid (∀ q, k < q → q < j + 1 → M q ≠ m) := fun x hx hne q h1 h2 => by
                          by_cases e : q = j
                          · subst e; rw [hx]; exact hne
                          · exact HQ.out q h1 (by omega)
                        obtain ⟨x, hx⟩ : ∃ x, M j = x := ⟨_, rfl⟩
                        rw [hx] at rj
                        have HQ3 := HQ2 x hx
                        clear HQ2 hx
                        by_cases hxm : x = m
                        · have bb : ((x : Int) == (m : Int)) = true := beq_iff_eq.2 (by omega)
                          clear hxm HQ3
                          go_wp2_with fail
                          go_quiet (fail)
                          go_wp2_with fail
                          go_quiet (fail)
                          go_wp2_with fail
                          go_roundw
                          case rel => exact ⟨k + 1, xs5, by omega, by go_num, own_dN _ Ot5, F5, own_dN _ Og5, below_dN _ B5⟩
                          case measure => simp [intOf]; omega
                        · have bb : ((x : Int) == (m : Int)) = false := beq_eq_false_iff_ne.2 (by omega)
                          have HQ4 := HQ3 hxm
                          clear hxm HQ3
                          go_wp2_with fail
                          go_quiet (fail)
                          go_wp2_with fail
                          go_roundw
                          case rel => exact ⟨j + 1, _, by omega, by omega, by go_num, rfl, HQ4, rfl⟩
                          case measure => simp [intOf]; omega
                      · have hZ := HSL.out k hlt2 (fun q h1 h2 => by rw [HMk.out]; exact HQ.out q h1 (by omega))
                        rw [HMk.out] at hZ
                        obtain ⟨g, cg, hv, hg, _⟩ := own_some Og5 (by omega)
                        injection hv with hv1 _ hv2
                        subst hv1
                        subst hv2
                        have gm : w4.cell? ⟨g, m, none⟩ = some (.int .i64 (T k)) := by
                          rw [Og5.cellAt m (by omega), ints_get _ _ (by have := Og5.1; rw [ints_length] at this; omega), hZ]
                        have rt := (HR.out w4 B5 k hlt2).2
                        have im : (m : Int) < (L : Int) := by omega
                        have im0 : (0 : Int) ≤ (m : Int) := by omega
                        have ik : (k : Int) < (nn : Int) := by omega
                        have ik0 : (0 : Int) ≤ (k : Int) := by omega
                        clear hZ HQ
                        generalize T k = t at *
                        go_wp2_with fail
                        go_quiet (fail)
                        go_wp2_with fail
                        go_roundw
                        case rel => exact ⟨k + 1, xs5, by omega, by go_num, own_dN _ Ot5, F5, own_dN _ Og5, below_dN _ B5⟩
                        case measure => simp [intOf]; omega
                  · obtain rfl : nn = k := by omega
                    go_wp2_with fail
                    go_loop [14] (fun i => ∃ k : Nat, k ≤ L ∧ i = .int .i64 k) (fun i => L - (intOf i).toNat)
                    case atStart => exact ⟨0, Nat.zero_le _, rfl⟩
                    case round =>
                      obtain ⟨i, hi, rfl⟩ := hrel
                      by_cases hiL : i < L
                      · have f0 : wr.cell? ⟨TB, i, none⟩ = some (.bool (tchd M i nn)) := by rw [Ot.cellAt i (by omega)]; exact F4.out i hiL
                        by_cases ht : tchd M i nn = true
                        · rw [ht] at f0
                          clear ht
                          go_wp2_with fail
                          go_round
                          case rel => exact ⟨i + 1, by omega, by go_num⟩
                          case measure => simp [intOf]; omega
                        · have ht' : tchd M i nn = false := by simpa using ht
                          rw [ht'] at f0
                          have hZ := HSC.out i hiL ht'
                          obtain ⟨g, cg, hv, hg, _⟩ := own_some Og (by omega)
                          injection hv with hv1 _ hv2
                          subst hv1
                          subst hv2
                          have g0 : wr.cell? ⟨g, i, none⟩ = some (.int .i64 (zs.getD i 0)) := by
                            rw [Og.cellAt i (by omega), ints_get _ _ (by have := Og.1; rw [ints_length] at this; omega), hZ]
                          clear ht ht' hZ
                          by_cases hil : i < len
                          · obtain ⟨b, off, rfl, hb, hc⟩ := HX.out (by omega)
                            have r0 : wr.cell? ⟨b, off + i, none⟩ = some (.int .i64 (zs.getD i 0)) := by rw [B4.cell (p := ⟨b, off + i, none⟩) hb]; exact hc i hil
                            clear hc HX HX2
                            generalize zs.getD i 0 = z at *
                            go_wp2_with fail
                            go_round
                            case rel => exact ⟨i + 1, by omega, by go_num⟩
                            case measure => simp [intOf]; omega
                          · rw [getD_past (by omega)] at g0
                            go_wp2_with fail
                            go_round
                            case rel => exact ⟨i + 1, by omega, by go_num⟩
                            case measure => simp [intOf]; omega
                      · go_wp2_with fail
                        go_ret
                        exact ⟨rfl, B4⟩
end Go.Proofs.Qxb6605773a
