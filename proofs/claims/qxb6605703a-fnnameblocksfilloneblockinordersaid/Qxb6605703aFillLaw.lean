/- FnNameBlocksFillOneBlockInOrder, walked. -/
import Derived.Test.Qxb6605703aRows
import Derived.Test.Qxb6605703aKeep
import Derived.Test.Qxb6605703aFillRel
import Derived.WalkKit
import Derived.WalkSpells
import Derived.WalkLawsBesides
import Derived.Deep.QuietTactic
import Derived.BigQuiet
import Derived.LoopN
namespace Go.Proofs.Qxb6605703a
open Go.RowKit

theorem tail_any2 (l : List UInt8) (s : ByteArray) : (⟨(l ++ s.data.toList).toArray⟩ : ByteArray).size = l.length + s.size := by rw [Lib.size_eq, Lib.size_eq]; simp

set_option maxRecDepth 100000 in
set_option maxHeartbeats 1000000 in
theorem fillLaw_some (b off len cap : Nat) (ss : Nat → ByteArray) (w : World) (hl : len ≤ 9223372036854775807) (hb : b < w.heap.size) (h0 : 0 < len) (hm : ∀ i, (ss i).size ≤ 9223372036854775807)
    (hc : ∀ i, i < len → w.cell? ⟨b, off + i, none⟩ = some (.string (ss i))) :
    Calls Try.prog 4 #[.slice (some ⟨b, off, none⟩) len cap] w fun e w' => e = .returned (.bool true) ∧ Below w.heap.size w w' := by
  have HC := hide hc
  have HM := hide hm
  clear hc hm
  obtain ⟨i5, hi5, hz0, hz1, hz2⟩ := info_parts Try.info5
  have HI := hide hi5
  have HZ0 := hide hz0
  have HZ1 := hide hz1
  have HZ2 := hide hz2
  clear hi5 hz0 hz1 hz2
  go_enter Try.func4, Try.ntmps4
  go_wp2_with fail
  refine (bytes14 b off len cap ss w hl HM.out HC.out).mono ?_
  rintro e w1 ⟨bb, rfl, hbb, rfl⟩
  cases bb with
  | false =>
    go_wp2_with fail
    go_ret
    exact ⟨rfl, Below.refl _ _⟩
  | true =>
    have HS := hide (hbb rfl)
    clear hbb
    have hl2 : len ≤ 1048576 := HS.out.1
    by_cases h16 : len ≤ 65536
    · have h16b : decide ((65536 : Int) < (len : Int)) = false := decide_eq_false (by omega)
      go_wp2_with fail
      go_loop [3, 4, 5] (fun n sm i => ∃ k t : Nat, k ≤ len ∧ i = .int .i64 k ∧ n = .int .i64 t ∧ t ≤ 1048576 ∧ sm = .int .i64 (sumTo ss k) ∧ sumTo ss k ≤ 65536) (fun _ _ i => len - (intOf i).toNat)
      case atStart => exact ⟨0, 0, Nat.zero_le _, rfl, rfl, by omega, rfl, by rw [sumTo]; omega⟩
      case round =>
        obtain ⟨k, t, hk, rfl, rfl, ht, rfl, hsum⟩ := hrel
        by_cases hlt : k < len
        · have r0 := HC.out k hlt
          have m0 := HS.out.2 k hlt
          have E : Hid (sumTo ss (k + 1) = sumTo ss k + (ss k).size) := rfl
          generalize ss k = s at *
          generalize sumTo ss k = sm at *
          by_cases h2 : t + (16 + s.size) ≤ 1048576
          · by_cases h3 : sm + s.size ≤ 65536
            · go_wp2
              go_round
              case rel => exact ⟨k + 1, t + (16 + s.size), by omega, by go_num, by go_num, h2, by rw [E.out]; go_num, by rw [E.out]; exact h3⟩
              case measure => simp [intOf]; omega
            · go_wp2
              go_ret
              exact ⟨rfl, Below.refl _ _⟩
          · go_wp2
            go_ret
            exact ⟨rfl, Below.refl _ _⟩
        · obtain rfl : len = k := by omega
          go_wp2_with fail
          refine (cloneS_some b off len cap ss w hl2 hb HC.out).mono ?_
          rintro e w1 ⟨rfl, G1, N1, C1⟩
          clear HC HM
          have HSM : Hid (∀ k, k ≤ len → sumTo ss k ≤ sumTo ss len) := fun k hk => sumTo_mono ss k len hk
          obtain ⟨T, HT⟩ : ∃ T, Hid (sumTo ss len = T) := ⟨_, rfl⟩
          rw [HT.out] at hsum HSM ⊢
          go_wp2_with fail
          refine (zznewNB w1).mono ?_
          rintro e w2 ⟨rfl, rfl⟩
          have hi := HI.out
          have hz0 := HZ0.out
          have hz1 := HZ1.out
          have hz2 := HZ2.out
          go_wp2_with (at_make; refine wpList_make_own _ rfl _ _ 30 rfl (w1.heap.size + 1) 5 i5 (.int .u8 0) 1 Try.underlying30 hi hz0 hz1 _ _ _ T rfl rfl rfl (by rw [hz2]; omega) (by unfold maxLen; omega) (by simp) ?_; intro w3 hown hgrow)
          clear hi hz0 hz1 hz2 HZ0 HZ2
          simp only [World.size_alloc] at hown
          have hsz3 : w1.heap.size + 1 < w3.heap.size := (hown.lt _ rfl).2
          have hnb : w3.heap[w1.heap.size]? = some (.cells #[.pointer none, .slice none 0 0] 46 (0, 0)) := by
            rw [hgrow.block w1.heap.size (by simp) (by simp)]
            exact heap_alloc_new w1 _
          have K0 : KRel w w3 w.heap.size w1.heap.size w3.heap.size len ss [] 0 := by
            have B1 : Below w.heap.size w w1 := (Below.refl _ _).grown G1 (Nat.le_refl _) (fun k hk => by simp at hk)
            refine ⟨(B1.alloc B1.size _).grown hgrow (by have := B1.size; simp; omega) (fun k hk => by simp at hk), ⟨Nat.le_refl _, N1, by omega⟩, fun j hj => ?_, .pointer none, .inl rfl, by omega, Nat.le_refl _, _, hnb, .inl ⟨rfl, rfl, rfl⟩⟩
            rw [World.cell?_of_block (a := ⟨w.heap.size, j, none⟩) (hgrow.block w.heap.size (by simp; omega) (by simp)), World.cell?_of_block (a := ⟨w.heap.size, j, none⟩) (Below.heap_alloc w1 _ w.heap.size N1)]
            exact C1 j hj
          clear hgrow hnb G1 N1 C1
          obtain ⟨K, hK⟩ : ∃ K, K = w1.heap.size := ⟨_, rfl⟩
          obtain ⟨B, hB⟩ : ∃ B, B = w3.heap.size := ⟨_, rfl⟩
          rw [← hK] at K0 hown hsz3 ⊢
          rw [← hB] at K0 hsz3
          have hKp : K + 1 < B := hsz3
          clear hsz3 hK hB
          have hNK : w.heap.size < K := K0.lt.2.1
          go_loopw [7, 8, 9] (fun wt rn i wr => ∃ (j cp : Nat), j ≤ len ∧ i = .int .i64 j ∧ rn = .int .i64 (sumTo ss j) ∧ wt = .slice (some ⟨K + 1, 0, none⟩) (sumTo ss j) T ∧ KRel w wr w.heap.size K B len ss (joinTo ss j) cp ∧ RoomOk (sumTo ss j) cp ∧ wr.ownsRow (K + 1) 5 1 (.slice (some ⟨K + 1, 0, none⟩) (sumTo ss j) T) (sumTo ss j) (Lib.byteCells (joinTo ss j))) (fun _ _ i _ => len - (intOf i).toNat)
          case atStart => exact ⟨0, 0, Nat.zero_le _, rfl, rfl, rfl, K0, .inl ⟨rfl, rfl⟩, hown⟩
          case round =>
            clear K0 hown
            obtain ⟨j, cp, hj, rfl, rfl, rfl, K1, R1, O1⟩ := hrel
            by_cases hlt : j < len
            · obtain ⟨p, hp, hn⟩ := K1.nb
              have r0 := K1.names j hlt
              have m0 := HS.out.2 j hlt
              have hT1 := HSM.out (j + 1) (by omega)
              have hlen := joinTo_length ss j
              have ES : Hid (sumTo ss (j + 1) = sumTo ss j + (ss j).size) := rfl
              have EJ : Hid (joinTo ss (j + 1) = joinTo ss j ++ (ss j).data.toList) := rfl
              rw [ES.out] at hT1
              generalize ss j = s at *
              generalize sumTo ss j = R at *
              generalize joinTo ss j = l at *
              subst hlen
              go_wp2_with fail
              refine (zzkeep B K p l cp s wr hn hp (by omega)).mono ?_
              rintro e w4 ⟨rfl, ⟨l', cp', N4, hl'⟩, G4⟩
              obtain ⟨rfl, R2⟩ := fill_keep R1 (by omega) hl'
              have K4 := K1.keeps G4 ⟨_, .inr rfl, N4⟩
              have O4 := own_keeps O1 G4 hKp (by omega)
              have r4 : w4.cell? ⟨w.heap.size, j, none⟩ = some (.string s) := by
                rw [World.cell?_of_block (a := ⟨w.heap.size, j, none⟩) (G4.block w.heap.size (by omega) (by omega))]; exact r0
              clear K1 O1 hn hp r0 G4 N4 hl' R1
              go_wp2_with fail
              go_loopw [7, 12] (fun wt i wr => ∃ (q : Nat), q ≤ s.size ∧ i = .int .i64 q ∧ wt = .slice (some ⟨K + 1, 0, none⟩) (l.length + q) T ∧ wr.cell? ⟨w.heap.size, j, none⟩ = some (.string s) ∧ KRel w wr w.heap.size K B len ss (l ++ s.data.toList) cp' ∧ wr.ownsRow (K + 1) 5 1 (.slice (some ⟨K + 1, 0, none⟩) (l.length + q) T) (l.length + q) (Lib.byteCells (l ++ s.data.toList.take q))) (fun _ i _ => s.size - (intOf i).toNat)
              case atStart => exact ⟨0, Nat.zero_le _, rfl, rfl, r4, K4, by rw [List.take_zero, List.append_nil]; exact O4⟩
              case round =>
                clear K4 O4 r4
                obtain ⟨q, hq, rfl, rfl, r5, K5, O5⟩ := hrel
                by_cases hlq : q < s.size
                · have hi := HI.out
                  have hz1 := HZ1.out
                  have EB := hide (bytes_take l s q hlq)
                  go_wp2_with (at_builtin; refine wpList_append_fits _ rfl _ _ 30 rfl (K + 1) 5 i5 1 Try.underlying30 hi hz1 (K + 1) (l.length + q) T (Lib.byteCells (l ++ s.data.toList.take q)) rfl (O5.alloc _) ⟨wr.heap.size, 0, none⟩ 1 1 [.int .u8 ((s[q]).toNat : Int)] rfl rfl ?c1 ?c2 (by omega) ?_)
                  case c1 => exact cell_one_new _ _ _
                  case c2 => intro u hu; simp at hu; subst hu; rfl
                  intro w6 O6 G6
                  have K6 := (K5.grown none (World.grownBy_alloc wr _ none) (fun i hi => by cases hi)).grown (some (K + 1)) G6 (fun i hi => by cases hi; omega)
                  have r6 : w6.cell? ⟨w.heap.size, j, none⟩ = some (.string s) := by
                    have hsz : w.heap.size < wr.heap.size := World.block_lt_of_cell? wr _ r5
                    rw [World.cell?_of_block (a := ⟨w.heap.size, j, none⟩) (G6.block w.heap.size (by simp; omega) (by simp; omega)), World.cell?_of_block (a := ⟨w.heap.size, j, none⟩) (Below.heap_alloc wr _ w.heap.size hsz)]
                    exact r5
                  clear hi hz1 K5 O5 G6 r5
                  rw [← EB.out] at O6
                  go_wp2_with fail
                  go_roundw
                  case rel => exact ⟨q + 1, by omega, by go_num, rfl, r6, K6, O6⟩
                  case measure => simp [intOf]; omega
                · obtain rfl : q = s.size := by omega
                  rw [List.take_of_length_le (by rw [← Lib.size_eq]; exact Nat.le_refl _)] at O5
                  obtain ⟨p5, hp5, hn5⟩ := K5.nb
                  have hLL : (l ++ s.data.toList).length = l.length + s.size := by rw [List.length_append, ← Lib.size_eq]
                  have hlen2 : decide ((l.length : Int) + (s.size : Int) < 0) = false := decide_eq_false (by omega)
                  go_wp2_with fail
                  refine (zzlen B K p5 _ cp' wr hn5).mono ?_
                  rintro e w7 ⟨rfl, rfl⟩
                  go_wp2_with fail
                  refine (zzcap B K p5 _ cp' wr hn5).mono ?_
                  rintro e w7 ⟨rfl, rfl⟩
                  go_wp2_with fail
                  refine (zzstring B K p5 _ cp' wr hn5).mono ?_
                  rintro e w7 ⟨rfl, N7, G7⟩
                  have K7 := K5.keeps G7 ⟨p5, hp5, N7⟩
                  have O7 := own_keeps O5 G7 hKp (by omega)
                  have r7 : w7.cell? ⟨w.heap.size, j, none⟩ = some (.string s) := by
                    rw [World.cell?_of_block (a := ⟨w.heap.size, j, none⟩) (G7.block w.heap.size (by omega) (by omega))]; exact r5
                  have hTl : (⟨(l ++ s.data.toList).toArray⟩ : ByteArray).extract l.length (l.length + s.size) = s := tail_back l s
                  have hsz : (⟨(l ++ s.data.toList).toArray⟩ : ByteArray).size = l.length + s.size := tail_any2 l s
                  clear K5 O5 hn5 hp5 N7 G7 r5
                  generalize (⟨(l ++ s.data.toList).toArray⟩ : ByteArray) = S at *
                  go_wp2_with fail
                  go_quiet (fail)
                  rcases R2 with ⟨z1, z2⟩ | ⟨z1, z2⟩
                  · have b1 : (((l.length : Int) + (s.size : Int)) == 0) = true := beq_iff_eq.2 (by omega)
                    have b2 : ((cp' : Int) != 0) = false := by rw [z2]; rfl
                    have R3 : RoomOk (sumTo ss (j + 1)) cp' := by rw [ES.out]; exact .inl ⟨z1, z2⟩
                    clear z1 z2
                    go_wp2_with fail
                    go_roundw
                    case rel => exact ⟨j + 1, cp', by omega, by go_num, by rw [ES.out]; go_num, by rw [ES.out], by rw [EJ.out]; exact K7.drewN _, R3, by rw [ES.out, EJ.out]; exact own_drewN _ O7⟩
                    case measure => simp [intOf]; omega
                  · have b1 : (((l.length : Int) + (s.size : Int)) == 0) = false := beq_eq_false_iff_ne.2 (by omega)
                    have b2 : decide ((cp' : Int) < 65536) = false := decide_eq_false (by omega)
                    have R3 : RoomOk (sumTo ss (j + 1)) cp' := by rw [ES.out]; exact .inr ⟨z1, z2⟩
                    go_wp2_with fail
                    go_roundw
                    case rel => exact ⟨j + 1, cp', by omega, by go_num, by rw [ES.out]; go_num, by rw [ES.out], by rw [EJ.out]; exact K7.drewN _, R3, by rw [ES.out, EJ.out]; exact own_drewN _ O7⟩
                    case measure => simp [intOf]; omega
            · obtain rfl : len = j := by omega
              have hlen := joinTo_length ss len
              have hlT := HSM.out len (Nat.le_refl _)
              generalize joinTo ss len = l at *
              generalize sumTo ss len = R at *
              subst hlen
              clear R1
              obtain ⟨p5, hp5, hn5⟩ := K1.nb
              go_wp2_with fail
              refine (zzstring B K p5 l cp wr hn5).mono ?_
              rintro e w7 ⟨rfl, N7, G7⟩
              have K7 := K1.keeps G7 ⟨p5, hp5, N7⟩
              have O7 := own_keeps O1 G7 hKp (by omega)
              have hsz : (⟨l.toArray⟩ : ByteArray).size = l.length := by rw [Lib.size_eq]
              have HW : Hid (∀ (q : Nat) (h : q < (⟨l.toArray⟩ : ByteArray).size), w7.cell? ⟨K + 1, q, none⟩ = some (.int .u8 (((⟨l.toArray⟩ : ByteArray)[q]'h).toNat : Int))) := by
                intro q h
                rw [O7.cellAt q (by omega)]
                simp [Lib.byteCells, ByteArray.getElem_eq_getElem_data]
                exact ⟨l[q]'(by omega), List.getElem?_eq_getElem _, rfl⟩
              clear K1 O1 hn5 hp5 N7 G7
              generalize (⟨l.toArray⟩ : ByteArray) = S at *
              go_wp2_with fail
              have HB := hide K7.below
              clear K7 O7 HS HSM HT HI HZ1
              go_loopw [17] (fun i wr => ∃ (q n : Nat), q ≤ l.length ∧ i = .int .i64 q ∧ wr = w7.drewN n) (fun i _ => l.length - (intOf i).toNat)
              case atStart => exact ⟨0, 0, Nat.zero_le _, rfl, rfl⟩
              case round =>
                obtain ⟨q, n, hq, rfl, rfl⟩ := hrel
                by_cases hlq : q < l.length
                · have hqS : q < S.size := by omega
                  have r0 := HW.out q hqS
                  go_wp2_with fail
                  go_quiet (fail)
                  go_wp2_with fail
                  go_roundw
                  case rel => exact ⟨q + 1, _, by omega, by go_num, rfl⟩
                  case measure => simp [intOf]; omega
                · go_wp2_with fail
                  go_ret
                  exact ⟨rfl, ⟨HB.out.os, HB.out.tape, HB.out.output, HB.out.size, HB.out.block⟩⟩
    · go_wp2_with fail
      go_ret
      exact ⟨rfl, Below.refl _ _⟩

set_option maxRecDepth 100000 in
set_option maxHeartbeats 1000000 in
theorem fillLaw_zero (a : Option Addr) (cap : Nat) (w : World) (h : a = none → cap = 0) :
    Calls Try.prog 4 #[.slice a 0 cap] w fun e w' => e = .returned (.bool true) ∧ Below w.heap.size w w' := by
  have HH := hide h
  clear h
  obtain ⟨i5, hi5, hz0, hz1, hz2⟩ := info_parts Try.info5
  go_enter Try.func4, Try.ntmps4
  go_wp2_with fail
  refine (bytes14_zero a cap w).mono ?_
  rintro e w1 ⟨rfl, rfl⟩
  go_wp2_with fail
  refine wp_loop_rounds 1 ?_
  rw [rounds_succ]
  go_wp2_with fail
  refine (cloneS_zero a cap w HH.out).mono ?_
  rintro e w1 ⟨a', rfl, G1⟩
  have B1 : Below w.heap.size w w1 := (Below.refl _ _).grown G1 (Nat.le_refl _) (fun k hk => by simp at hk)
  clear G1 HH
  go_wp2_with fail
  refine (zznewNB w1).mono ?_
  rintro e w2 ⟨rfl, rfl⟩
  go_wp2_with (at_make; refine wpList_make_own _ rfl _ _ 30 rfl (w1.heap.size + 1) 5 i5 (.int .u8 0) 1 Try.underlying30 hi5 hz0 hz1 _ _ _ 0 rfl rfl rfl (by omega) (by unfold maxLen; omega) (by simp) ?_; intro w3 hown hgrow)
  have hlt : w1.heap.size < w3.heap.size := by have := hgrow.size; simp at this; omega
  have N3 : NB w3 w3.heap.size w1.heap.size (.pointer none) [] 0 := by
    refine ⟨hlt, Nat.le_refl _, _, ?_, .inl ⟨rfl, rfl, rfl⟩⟩
    rw [hgrow.block w1.heap.size (by simp) (by simp)]
    exact heap_alloc_new w1 _
  have B3 : Below w.heap.size w w3 := (B1.alloc B1.size _).grown hgrow (by have := B1.size; simp; omega) (fun k hk => by simp at hk)
  have hb1 := B1.size
  clear hown hgrow hi5 hz0 hz1 hz2 B1
  refine wp_loop_rounds 1 ?_
  rw [rounds_succ]
  go_wp2_with fail
  refine (zzstring w3.heap.size w1.heap.size _ [] 0 w3 N3).mono ?_
  rintro e w7 ⟨rfl, N7, G7⟩
  have B7 : Below w.heap.size w w7 := B3.trans ⟨G7.os, G7.tape, G7.output, G7.size, fun i hi => G7.block i (by omega) (by omega)⟩
  clear N7 G7 N3 B3
  go_wp2_with fail
  refine wp_loop_rounds 1 ?_
  rw [rounds_succ]
  go_wp2_with fail
  go_ret
  exact ⟨rfl, B7⟩
end Go.Proofs.Qxb6605703a
