/- FnNameBlocksKeepReturnsEachName, walked. -/
import Derived.Test.Qxb6605703aRows
import Derived.Test.Qxb6605703aKeep
import Derived.Test.Qxb6605703aKRel
import Derived.WalkKit
import Derived.WalkSpells
import Derived.WalkLawsBesides
import Derived.Deep.QuietTactic
import Derived.BigQuiet
import Derived.LoopN
namespace Go.Proofs.Qxb6605703a
open Go.RowKit

theorem tail_any (l : List UInt8) (s : ByteArray) : (⟨(l ++ s.data.toList).toArray⟩ : ByteArray).size = l.length + s.size := by rw [Lib.size_eq, Lib.size_eq]; simp

set_option maxRecDepth 100000 in
set_option maxHeartbeats 1000000 in
theorem keepLaw_some (b off len cap : Nat) (ss : Nat → ByteArray) (w : World) (hl : len ≤ 9223372036854775807) (hb : b < w.heap.size) (h0 : 0 < len) (hm : ∀ i, (ss i).size ≤ 9223372036854775807)
    (hc : ∀ i, i < len → w.cell? ⟨b, off + i, none⟩ = some (.string (ss i))) :
    Calls Try.prog 3 #[.slice (some ⟨b, off, none⟩) len cap] w fun e w' => e = .returned (.bool true) ∧ Below w.heap.size w w' := by
  have HC := hide hc
  have HM := hide hm
  clear hc hm
  obtain ⟨i9, hi9, hz0, hz1, hz2⟩ := info_parts Try.info9
  have HI := hide hi9
  have HZ0 := hide hz0
  have HZ1 := hide hz1
  have HZ2 := hide hz2
  clear hi9 hz0 hz1 hz2
  go_enter Try.func3, Try.ntmps3
  go_wp2_with fail
  refine (bytes7 b off len cap ss w hl HM.out HC.out).mono ?_
  rintro e w1 ⟨bb, rfl, hbb, rfl⟩
  cases bb with
  | false =>
    go_wp2_with fail
    go_ret
    exact ⟨rfl, Below.refl _ _⟩
  | true =>
    have HS := hide (hbb rfl)
    clear hbb
    have hl2 : len ≤ 1048576 := HS.out.1
    by_cases h16 : len ≤ 65536
    · have h16b : decide ((65536 : Int) < (len : Int)) = false := decide_eq_false (by omega)
      go_wp2_with fail
      go_loop [3, 4] (fun n i => ∃ k t : Nat, k ≤ len ∧ i = .int .i64 k ∧ n = .int .i64 t ∧ t ≤ 1048576) (fun _ i => len - (intOf i).toNat)
      case atStart => exact ⟨0, 0, Nat.zero_le _, rfl, rfl, by omega⟩
      case round =>
        obtain ⟨k, t, hk, rfl, rfl, ht⟩ := hrel
        by_cases hlt : k < len
        · have r0 := HC.out k hlt
          have m0 := HS.out.2 k hlt
          generalize ss k = s at *
          by_cases h2 : t + (16 + s.size) ≤ 1048576
          · go_wp2
            go_round
            case rel => exact ⟨k + 1, t + (16 + s.size), by omega, by go_num, by go_num, h2⟩
            case measure => simp [intOf]; omega
          · go_wp2
            go_ret
            exact ⟨rfl, Below.refl _ _⟩
        · obtain rfl : len = k := by omega
          go_wp2_with fail
          refine (cloneS_some b off len cap ss w hl2 hb HC.out).mono ?_
          rintro e w1 ⟨rfl, G1, N1, C1⟩
          clear HC HM
          go_wp2_with fail
          refine (zznewNB w1).mono ?_
          rintro e w2 ⟨rfl, rfl⟩
          have hi := HI.out
          have hz0 := HZ0.out
          have hz1 := HZ1.out
          have hz2 := HZ2.out
          go_wp2_with (at_make; refine wpList_make_full _ rfl _ _ 22 rfl (w1.heap.size + 1) 9 i9 (.string ⟨#[]⟩) 1 Try.underlying22 hi hz0 hz1 _ _ _ _ len rfl rfl rfl rfl (by rw [hz2]; omega) (by unfold maxLen; omega) (by simp) ?_; intro w3 hown hgrow)
          clear hi hz0 hz1 hz2 HI HZ0 HZ1 HZ2 i9
          simp only [World.size_alloc] at hown
          have hsz3 : w1.heap.size + 1 < w3.heap.size := (hown.lt _ rfl).2
          have hnb : w3.heap[w1.heap.size]? = some (.cells #[.pointer none, .slice none 0 0] 46 (0, 0)) := by
            rw [hgrow.block w1.heap.size (by simp) (by simp)]
            exact heap_alloc_new w1 _
          have K0 : KRel w w3 w.heap.size w1.heap.size w3.heap.size len ss [] 0 := by
            have B1 : Below w.heap.size w w1 := (Below.refl _ _).grown G1 (Nat.le_refl _) (fun k hk => by simp at hk)
            refine ⟨(B1.alloc B1.size _).grown hgrow (by have := B1.size; simp; omega) (fun k hk => by simp at hk), ⟨Nat.le_refl _, N1, by omega⟩, fun j hj => ?_, .pointer none, .inl rfl, by omega, Nat.le_refl _, _, hnb, .inl ⟨rfl, rfl, rfl⟩⟩
            rw [World.cell?_of_block (a := ⟨w.heap.size, j, none⟩) (hgrow.block w.heap.size (by simp; omega) (by simp)), World.cell?_of_block (a := ⟨w.heap.size, j, none⟩) (Below.heap_alloc w1 _ w.heap.size N1)]
            exact C1 j hj
          have P0 : Kept w3 (w1.heap.size + 1) len 0 ss := by
            refine ⟨fun j hj => ?_, fun j hj => absurd hj (by omega)⟩
            rw [Nat.zero_add]
            exact ⟨by rw [hown.cellAt j (by omega), List.getElem?_eq_getElem (by rw [hown.1]; omega)]; rfl, hown.frozenAt j⟩
          clear hown hgrow hnb G1 N1 C1
          obtain ⟨K, hK⟩ : ∃ K, K = w1.heap.size := ⟨_, rfl⟩
          obtain ⟨B, hB⟩ : ∃ B, B = w3.heap.size := ⟨_, rfl⟩
          rw [← hK] at K0 P0 hsz3 ⊢
          rw [← hB] at K0 hsz3
          have hKp : K + 1 < B := hsz3
          clear hsz3 hK hB
          have hNK : w.heap.size < K := K0.lt.2.1
          go_loopw [7] (fun i wr => ∃ (j : Nat) (l : List UInt8) (cp : Nat), j ≤ len ∧ i = .int .i64 j ∧ KRel w wr w.heap.size K B len ss l cp ∧ Kept wr (K + 1) len j ss) (fun i _ => len - (intOf i).toNat)
          case atStart => exact ⟨0, [], 0, Nat.zero_le _, rfl, K0, P0⟩
          case round =>
            clear K0 P0
            obtain ⟨j, l, cp, hj, rfl, K1, P1⟩ := hrel
            by_cases hlt : j < len
            · obtain ⟨p, hp, hn⟩ := K1.nb
              have r0 := K1.names j hlt
              have m0 := HS.out.2 j hlt
              have P2 := fun (w' : World) (h : Kept w' (K + 1) len j ss) => h.step hlt
              obtain ⟨s, hss⟩ : ∃ s, ss j = s := ⟨_, rfl⟩
              rw [hss] at r0 m0 P2
              have HP2 := hide P2
              clear hss P2
              go_wp2_with fail
              refine (zzkeep B K p l cp s wr hn hp (by omega)).mono ?_
              rintro e w4 ⟨rfl, ⟨l', cp', N4, hl'⟩, G4⟩
              obtain ⟨l0, hl0⟩ : ∃ l0, l' = l0 ++ s.data.toList := by
                rcases hl' with ⟨_, h, _⟩ | ⟨_, h, _⟩
                · exact ⟨l, h⟩
                · exact ⟨[], by rw [h]; rfl⟩
              have K4 := K1.keeps G4 ⟨_, .inr rfl, N4⟩
              have P4 := P1.keeps G4 (by omega) (by omega)
              have r4 : w4.cell? ⟨w.heap.size, j, none⟩ = some (.string s) := by
                rw [World.cell?_of_block (a := ⟨w.heap.size, j, none⟩) (G4.block w.heap.size (by omega) (by omega))]; exact r0
              obtain ⟨v0, g0⟩ := cell_is P4.there j hlt
              have z0 : w4.frozen? ⟨K + 1, j, none⟩ = false := by have := (P4.there j hlt).2; rwa [Nat.zero_add] at this
              have K5 := K4.store (K + 1) j (by omega) hKp (.string s)
              have P5 := HP2.out _ P4
              clear HP2 K1 P1 hn hp r0 G4 N4 hl' K4 P4
              go_wp2_with fail
              have c5 : (w4.setCell ⟨K + 1, j, none⟩ (.string s)).cell? ⟨K + 1, j, none⟩ = some (.string s) := World.cell?_setCell_same _ _ _ g0
              have r5 : (w4.setCell ⟨K + 1, j, none⟩ (.string s)).cell? ⟨w.heap.size, j, none⟩ = some (.string s) := by
                rw [World.cell?_setCell_other _ _ _ _ (fun e => by have := congrArg Addr.block e; simp only at this; omega)]; exact r4
              generalize w4.setCell ⟨K + 1, j, none⟩ (.string s) = w5 at *
              clear g0 z0 r4
              go_quiet (fail)
              go_wp2_with fail
              obtain ⟨p5, hp5, hn5⟩ := K5.nb
              refine (zzstring B K p5 l' cp' (w5.drewN nq) (hn5.drewN nq)).mono ?_
              rintro e w6 ⟨rfl, N6, G6⟩
              have K6 := (K5.drewN nq).keeps G6 ⟨p5, hp5, N6⟩
              have P6 := (P5.drewN nq).keeps G6 hKp (by omega)
              have r6 : w6.cell? ⟨w.heap.size, j, none⟩ = some (.string s) := by
                rw [World.cell?_of_block (a := ⟨w.heap.size, j, none⟩) (G6.block w.heap.size (by omega) (by omega))]; exact r5
              have hle : l'.length ≤ cp' ∧ cp' ≤ 9223372036854775807 := by
                obtain ⟨_, _, v, _, hbuf⟩ := N6
                exact hbuf.le
              have hT : (⟨l'.toArray⟩ : ByteArray).extract l0.length (l0.length + s.size) = s := by rw [hl0]; exact tail_back l0 s
              have hsz : (⟨l'.toArray⟩ : ByteArray).size = l0.length + s.size := by rw [hl0]; exact tail_any l0 s
              have hll : l'.length = l0.length + s.size := by rw [hl0, List.length_append, ← Lib.size_eq]
              have HN := hide N6
              clear hl0 K5 P5 hn5 hp5 G6 r5 c5 N6
              generalize (⟨l'.toArray⟩ : ByteArray) = S at *
              have hlo : l0.length ≤ 9223372036854775807 := by omega
              go_wp2_with fail
              go_quiet (fail)
              go_wp2_with fail
              refine (zzlen B K p5 l' cp' (w6.drewN nq) (HN.out.drewN nq)).mono ?_
              rintro e w7 ⟨rfl, rfl⟩
              go_wp2_with fail
              refine (zzcap B K p5 l' cp' (w6.drewN nq) (HN.out.drewN nq)).mono ?_
              rintro e w7 ⟨rfl, rfl⟩
              go_wp2_with fail
              go_roundw
              case rel => exact ⟨j + 1, l', cp', by omega, by go_num, K6.drewN nq, P6.drewN nq⟩
              case measure => simp [intOf]; omega
            · obtain rfl : len = j := by omega
              go_wp2_with fail
              go_loopw [10] (fun i wr => ∃ (j : Nat), j ≤ len ∧ i = .int .i64 j ∧ KRel w wr w.heap.size K B len ss l cp ∧ Kept wr (K + 1) len len ss) (fun i _ => len - (intOf i).toNat)
              case atStart => exact ⟨0, Nat.zero_le _, rfl, K1, P1⟩
              case round =>
                clear K1 P1
                obtain ⟨j, hj2, rfl, K2, P2⟩ := hrel
                by_cases hlt2 : j < len
                · have r0 := K2.names j hlt2
                  have c0 := P2.cells j hlt2
                  generalize ss j = s at *
                  go_wp2_with fail
                  go_quiet (fail)
                  go_wp2_with fail
                  go_roundw
                  case rel => exact ⟨j + 1, by omega, by go_num, K2.drewN _, P2.drewN _⟩
                  case measure => simp [intOf]; omega
                · go_wp2_with fail
                  go_ret
                  exact ⟨rfl, K2.below⟩
    · go_wp2_with fail
      go_ret
      exact ⟨rfl, Below.refl _ _⟩

set_option maxRecDepth 100000 in
set_option maxHeartbeats 1000000 in
theorem keepLaw_zero (a : Option Addr) (cap : Nat) (w : World) (h : a = none → cap = 0) :
    Calls Try.prog 3 #[.slice a 0 cap] w fun e w' => e = .returned (.bool true) ∧ Below w.heap.size w w' := by
  have HH := hide h
  clear h
  obtain ⟨i9, hi9, hz0, hz1, hz2⟩ := info_parts Try.info9
  go_enter Try.func3, Try.ntmps3
  go_wp2_with fail
  refine (bytes7_zero a cap w).mono ?_
  rintro e w1 ⟨rfl, rfl⟩
  go_wp2_with fail
  refine wp_loop_rounds 1 ?_
  rw [rounds_succ]
  go_wp2_with fail
  refine (cloneS_zero a cap w HH.out).mono ?_
  rintro e w1 ⟨a', rfl, G1⟩
  have B1 : Below w.heap.size w w1 := (Below.refl _ _).grown G1 (Nat.le_refl _) (fun k hk => by simp at hk)
  clear G1 HH
  go_wp2_with fail
  refine (zznewNB w1).mono ?_
  rintro e w2 ⟨rfl, rfl⟩
  go_wp2_with (at_make; refine wpList_make_full _ rfl _ _ 22 rfl (w1.heap.size + 1) 9 i9 (.string ⟨#[]⟩) 1 Try.underlying22 hi9 hz0 hz1 _ _ _ _ 0 rfl rfl rfl rfl (by omega) (by unfold maxLen; omega) (by simp) ?_; intro w3 hown hgrow)
  have B3 : Below w.heap.size w w3 := (B1.alloc B1.size _).grown hgrow (by have := B1.size; simp; omega) (fun k hk => by simp at hk)
  clear hown hgrow hi9 hz0 hz1 hz2 B1
  refine wp_loop_rounds 1 ?_
  rw [rounds_succ]
  go_wp2_with fail
  refine wp_loop_rounds 1 ?_
  rw [rounds_succ]
  go_wp2_with fail
  go_ret
  exact ⟨rfl, B3⟩
end Go.Proofs.Qxb6605703a
