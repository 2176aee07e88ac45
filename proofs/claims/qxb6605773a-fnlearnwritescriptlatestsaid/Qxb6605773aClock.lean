/- (*clock).set, ZZclockSet. -/
import Derived.Test.Qxb6605773aRows
import Derived.Test.Qxb6605773aBase
import Derived.WalkKit
import Derived.WalkSpells
import Derived.WalkLawsBesides
import Derived.Deep.LoopGhost
namespace Go.Proofs.Qxb6605773a
open Go.RowKit

theorem Try.info2 : (Try.prog.info? 2).map (fun i => (i.zero, i.size, i.bytes)) = some (some (.int .i64 0), 1, 8) := by kernel_rfl

/-- zs, filled up with noughts to m. -/
def pad (zs : List Int) (m : Nat) : List Int := zs ++ List.replicate (m - zs.length) 0
theorem pad_length (zs : List Int) (m : Nat) (h : zs.length ≤ m) : (pad zs m).length = m := by simp [pad]; omega
theorem pad_self (zs : List Int) : pad zs zs.length = zs := by simp [pad]
theorem pad_succ (zs : List Int) (m : Nat) (h : zs.length ≤ m) : pad zs (m + 1) = pad zs m ++ [0] := by
  unfold pad
  rw [show m + 1 - zs.length = (m - zs.length) + 1 from by omega, List.replicate_succ', List.append_assoc]

/-- The clock behind set(n, t). -/
def setAt (zs : List Int) (n : Nat) (t : Int) : List Int := (pad zs (max zs.length (n + 1))).set n t

set_option maxRecDepth 100000 in
set_option maxHeartbeats 1000000 in
theorem clockSet (B c n : Nat) (t : Int) (zs : List Int) (v : Value) (w : World) (hc : w.heap[c]? = some (.cells #[v] 76 (0, 0))) (hB : B ≤ c) (hown : w.ownsRow B 2 1 v zs.length (ints zs)) (hn : n ≤ 65536) :
    Calls Try.prog 30 #[.pointer (some ⟨c, 0, none⟩), .int .i64 n, .int .i64 t] w fun e w' => e = .returned (.tuple #[]) ∧
      (∃ v', w'.heap[c]? = some (.cells #[v'] 76 (0, 0)) ∧ w'.ownsRow B 2 1 v' (setAt zs n t).length (ints (setAt zs n t))) ∧ Below B w w' := by
  obtain ⟨i0, hi, hz0, hz1, hz2⟩ := info_parts Try.info2
  have HI := hide hi
  have HZ0 := hide hz0
  have HZ1 := hide hz1
  have HZ2 := hide hz2
  have HC := hide hc
  clear hi hz0 hz1 hz2 hc
  go_enter Try.func30, Try.ntmps30
  go_wp2_with fail
  go_loopg [] (n + 1 - zs.length) (fun k wr => ∃ (v : Value) (m : Nat), zs.length ≤ m ∧ k = n + 1 - m ∧ (m ≤ n + 1 ∨ m = zs.length) ∧ Hid (wr.heap[c]? = some (.cells #[v] 76 (0, 0))) ∧ wr.ownsRow B 2 1 v m (ints (pad zs m)) ∧ Below B w wr)
  case atStart => exact ⟨v, zs.length, Nat.le_refl _, rfl, .inr rfl, HC, by rw [pad_self]; exact hown, Below.refl _ _⟩
  case round =>
    clear hown HC
    obtain ⟨v, m, hm, rfl, hm2, HC, O1, B1⟩ := hrel
    obtain ⟨a, cap, rfl⟩ := own_form O1
    have c1 : wr.cell? ⟨c, 0, none⟩ = some (.slice a m cap) := by rw [cell_heap HC.out]; rfl
    have hcl : c < wr.heap.size := heap_lt HC.out
    by_cases hlt : m ≤ n
    · have hi := HI.out
      have hz0 := HZ0.out
      have hz1 := HZ1.out
      have hz2 := HZ2.out
      go_wp2_with (at_builtin; refine wpList_append_own _ rfl _ _ 76 rfl B 2 i0 (.int .i64 0) 1 8 Try.underlying76 hi hz0 hz1 hz2 rfl (by decide) _ _ _ rfl (O1.alloc _) ⟨wr.heap.size, 0, none⟩ 1 1 [.int .i64 0] rfl rfl ?c1 ?c2 ?c3 ?c4 ?c5 ?_)
      case c1 => exact cell_one_new _ _ _
      case c2 => intro u hu; simp at hu; subst hu; rfl
      case c3 => unfold maxLen; omega
      case c4 => omega
      case c5 => simp; omega
      intro v' w1 O2 G2 _
      clear hi hz0 hz1 hz2
      have hC1 : w1.heap[c]? = some (.cells #[.slice a m cap] 76 (0, 0)) := by
        rw [G2.block c (by simp; omega) (fun e => own_ne O1 HC.out (by decide) e.symm), Below.heap_alloc _ _ _ hcl]
        exact HC.out
      have hB1 : B ≤ wr.heap.size := by omega
      have B2 : Below B w w1 := (B1.alloc hB1 _).grown G2 (by simp; omega) (fun k hk => (O1.lt k hk).1)
      rw [show ([Value.int .i64 0] : List Value) = ints [0] from rfl, ← ints_append, ← pad_succ zs m hm] at O2
      obtain ⟨a', cap', rfl⟩ := own_form O2
      have d1 : w1.cell? ⟨c, 0, none⟩ = some (.slice a m cap) := by rw [cell_heap hC1]; rfl
      have f1 : w1.frozen? ⟨c, 0, none⟩ = false := frozen_heap hC1 0
      have hC2 : (w1.setCell ⟨c, 0, none⟩ (.slice a' (m + 1) cap')).heap[c]? = some (.cells #[.slice a' (m + 1) cap'] 76 (0, 0)) := by simp [World.setCell, Array.getElem?_modify, hC1]
      have O3 : (w1.setCell ⟨c, 0, none⟩ (.slice a' (m + 1) cap')).ownsRow B 2 1 (.slice a' (m + 1) cap') (m + 1) (ints (pad zs (m + 1))) :=
        O2.kept (row := some c) ⟨rfl, rfl, rfl, by simp [World.setCell], fun k _ hk => Below.heap_setCell _ _ _ _ (fun e => hk (by rw [e]))⟩ (.inr (own_ne O2 hC1 (by decide)))
      have B3 := B2.setCell (p := ⟨c, 0, none⟩) hB (.slice a' (m + 1) cap')
      have HC2 := hide hC2
      clear hC1 hC2 O1 O2 B1 B2 G2 HC c1
      go_wp2_with fail
      go_roundg (n + 1 - (m + 1))
      case measure => omega
      case rel => exact ⟨_, m + 1, by omega, rfl, by omega, HC2, O3, B3⟩
    · have hlen : m = max zs.length (n + 1) := by omega
      obtain ⟨g, cap', hv, hg, hgl⟩ := own_some O1 (by omega)
      have hnm : (n : Int) < (m : Int) := by omega
      injection hv with hv1 _ hv2
      subst hv1
      subst hv2
      have g0 : wr.cell? ⟨g, n, none⟩ = some (.int .i64 ((pad zs m).getD n 0)) := by
        rw [O1.cellAt n (by omega)]
        exact ints_get _ _ (by rw [pad_length zs m hm]; omega)
      have z0 : wr.frozen? ⟨g, n, none⟩ = false := O1.frozenAt n
      have hgc : g ≠ c := fun e => own_ne O1 HC.out (by decide) (by simp [Value.ownBlock, e])
      have HL := hide hlen
      clear hlen
      go_wp2_with fail
      go_end0
      refine ⟨rfl, ⟨.slice (some ⟨g, 0, none⟩) m cap, ?_, ?_⟩, B1.setCell (p := ⟨g, n, none⟩) hg _⟩
      · rw [Below.heap_setCell _ _ _ _ (by show c ≠ g; omega)]; exact HC.out
      · have h1 := (O1.stored n (.int .i64 t)).1
        have e1 : setAt zs n t = (pad zs m).set n t := by unfold setAt; rw [← HL.out]
        have e2 : (setAt zs n t).length = m := by rw [e1, List.length_set, pad_length zs m hm]
        rw [e2, e1, ← ints_set]
        exact h1

set_option maxRecDepth 100000 in
set_option maxHeartbeats 400000 in
/-- ZZclockSet -/
theorem zzclockSet (B n : Nat) (t : Int) (zs : List Int) (v : Value) (w : World) (hB : B ≤ w.heap.size) (hown : w.ownsRow B 2 1 v zs.length (ints zs)) (hn : n ≤ 65536) :
    Calls Try.prog 9 #[v, .int .i64 n, .int .i64 t] w fun e w' => (∃ v', e = .returned v' ∧ w'.ownsRow B 2 1 v' (setAt zs n t).length (ints (setAt zs n t))) ∧ Below B w w' := by
  obtain ⟨a, cap, rfl⟩ := own_form hown
  go_enter Try.func9, Try.ntmps9
  go_wp2_with fail
  refine (clockSet B w.heap.size n t zs _ _ (heap_alloc_new w _) hB (hown.alloc _) hn).mono ?_
  rintro e w1 ⟨rfl, ⟨v', hC, O1⟩, B1⟩
  obtain ⟨a', cap', rfl⟩ := own_form O1
  have c1 : w1.cell? ⟨w.heap.size, 0, none⟩ = some (.slice a' (setAt zs n t).length cap') := by rw [cell_heap hC]; rfl
  have HO := hide O1
  have HB := hide (((Below.refl B w).alloc hB _).trans B1)
  clear hC O1 B1
  obtain ⟨L, HL⟩ : ∃ L, Hid ((setAt zs n t).length = L) := ⟨_, rfl⟩
  rw [HL.out] at c1
  go_wp2_with fail
  go_ret
  refine ⟨⟨.slice a' L cap', rfl, ?_⟩, HB.out⟩
  rw [← HL.out]
  exact HO.out
end Go.Proofs.Qxb6605773a
