import Derived.Test.Qxb6605703aRows
import Derived.Test.Qxb6605703aBase
import Derived.Test.Qxb6605703aPlain
import Derived.Test.Qxb6605703aWrAdd
import Derived.WalkKit
import Derived.WalkSpells
import Derived.WalkLawsBesides
import Derived.BigRegion
import Derived.LoopN
import Derived.Deep.RegionWith
namespace Go.Proofs.Qxb6605703a
open Go.RowKit

/-- The wordRange q lies at b, o. -/
def HasQ (w : World) (b o : Nat) (q : WR) : Prop := HasWR w b o q.first q.least q.most q.step q.seen

theorem wraddQ (b o : Nat) (x : Nat) (q : WR) (w : World) (h : HasQ w b o q) (hq : q.Ok) (hx : x < 18446744073709551616) :
    Calls Try.prog 29 #[.pointer (some ⟨b, o, none⟩), .int .u64 x] w fun e w' => e = .returned (.tuple #[]) ∧ HasQ w' b o (q.add x) ∧ Only w w' b o (o + 5) :=
  wradd b o x q.first q.least q.most q.step q.seen w h hx hq.f hq.s

theorem HasQ.alloc {w : World} {b o : Nat} {q : WR} (h : HasQ w b o q) (ob : Obj) : HasQ (w.alloc ob) b o q := by
  have hb : b < w.heap.size := World.block_lt_of_cell? w _ h.c0
  have hc : ∀ j, (w.alloc ob).cell? ⟨b, j, none⟩ = w.cell? ⟨b, j, none⟩ := fun j => World.cell?_alloc_lt _ _ _ hb
  have hf : ∀ j, (w.alloc ob).frozen? ⟨b, j, none⟩ = w.frozen? ⟨b, j, none⟩ := fun j => World.frozen?_alloc_past _ _ _ hb
  exact ⟨by rw [hc]; exact h.c0, by rw [hc]; exact h.c1, by rw [hc]; exact h.c2, by rw [hc]; exact h.c3, by rw [hc]; exact h.c4,
      by rw [hf]; exact h.z0, by rw [hf]; exact h.z1, by rw [hf]; exact h.z2, by rw [hf]; exact h.z3, by rw [hf]; exact h.z4⟩

set_option maxRecDepth 100000 in
set_option maxHeartbeats 400000 in
theorem pradd (b : Nat) (q0 q1 q2 : WR) (x0 x1 x2 : Nat) (w : World) (h0 : HasQ w b 0 q0) (h1 : HasQ w b 5 q1) (h2 : HasQ w b 10 q2) (k0 : q0.Ok) (k1 : q1.Ok) (k2 : q2.Ok) (hx0 : x0 < 18446744073709551616) (hx1 : x1 < 18446744073709551616) (hx2 : x2 < 18446744073709551616) :
    Calls Try.prog 26 #[.pointer (some ⟨b, 0, none⟩), .agg #[.int .u64 x0, .int .u64 x1, .int .u64 x2]] w fun e w' =>
      e = .returned (.tuple #[]) ∧ HasQ w' b 0 (q0.add x0) ∧ HasQ w' b 5 (q1.add x1) ∧ HasQ w' b 10 (q2.add x2) ∧ w.grownBy w' (some b) := by
  have hb : b < w.heap.size := World.block_lt_of_cell? w _ h0.c0
  go_enter Try.func26, Try.ntmps26
  go_wp2_with fail
  refine wp_loop_rounds 4 ?_
  rw [rounds_succ]
  go_wp2_with fail
  go_region_with (go_at_call 29; refine (wraddQ b 0 x0 q0 _ (by exact HasWR.drew (HasQ.alloc h0 _)) k0 hx0).mono ?_; rintro e w1 ⟨rfl, g0, o1⟩)
  go_wp2_with fail
  have e1 : HasQ w1 b 5 q1 := (HasWR.drew (HasQ.alloc h1 _)).only o1 (by omega)
  have e2 : HasQ w1 b 10 q2 := (HasWR.drew (HasQ.alloc h2 _)).only o1 (by omega)
  have hne : w.heap.size ≠ b := by omega
  have c1 : w1.cell? ⟨w.heap.size, 1, none⟩ = some (.int .u64 x1) := by rw [o1.far _ _ hne]; simp [World.cell?_alloc_at]
  have c2 : w1.cell? ⟨w.heap.size, 2, none⟩ = some (.int .u64 x2) := by rw [o1.far _ _ hne]; simp [World.cell?_alloc_at]
  have G1 : w.grownBy w1 (some b) := grown_trans (grown_drew (World.grownBy_alloc w _ _)) o1.grown
  clear h0 h1 h2 o1 hb
  rw [rounds_succ]
  go_wp2_with fail
  go_region_with (go_at_call 29; refine (wraddQ b 5 x1 q1 _ (by exact HasWR.drew e1) k1 hx1).mono ?_; rintro e w2 ⟨rfl, g1, o2⟩)
  go_wp2_with fail
  have e0 : HasQ w2 b 0 (q0.add x0) := (HasWR.drew g0).only o2 (by omega)
  have e2' : HasQ w2 b 10 q2 := (HasWR.drew e2).only o2 (by omega)
  have c2' : w2.cell? ⟨w.heap.size, 2, none⟩ = some (.int .u64 x2) := by rw [o2.far _ _ hne]; simpa using c2
  have G2 : w.grownBy w2 (some b) := grown_trans (grown_drew G1) o2.grown
  clear c1 c2 G1 o2 e1 e2 g0
  rw [rounds_succ]
  go_wp2_with fail
  go_region_with (go_at_call 29; refine (wraddQ b 10 x2 q2 _ (by exact HasWR.drew e2') k2 hx2).mono ?_; rintro e w3 ⟨rfl, g2, o3⟩)
  go_wp2_with fail
  rw [rounds_succ]
  go_wp2_with fail
  go_end0
  exact ⟨rfl, (HasWR.drew e0).only o3 (by omega), (HasWR.drew g1).only o3 (by omega), g2, grown_trans (grown_drew G2) o3.grown⟩

set_option maxHeartbeats 400000 in
/-- ZZaddPriority -/
theorem zzadd (b : Nat) (q0 q1 q2 : WR) (x0 x1 x2 : Nat) (w : World) (h0 : HasQ w b 0 q0) (h1 : HasQ w b 5 q1) (h2 : HasQ w b 10 q2) (k0 : q0.Ok) (k1 : q1.Ok) (k2 : q2.Ok) (hx0 : x0 < 18446744073709551616) (hx1 : x1 < 18446744073709551616) (hx2 : x2 < 18446744073709551616) :
    Calls Try.prog 18 #[.pointer (some ⟨b, 0, none⟩), .agg #[.int .u64 x0, .int .u64 x1, .int .u64 x2]] w fun e w' =>
      e = .returned (.tuple #[]) ∧ HasQ w' b 0 (q0.add x0) ∧ HasQ w' b 5 (q1.add x1) ∧ HasQ w' b 10 (q2.add x2) ∧ w.grownBy w' (some b) := by
  go_enter Try.func18, Try.ntmps18
  go_wp2_with fail
  refine (pradd b q0 q1 q2 x0 x1 x2 _ (h0.alloc _) (h1.alloc _) (h2.alloc _) k0 k1 k2 hx0 hx1 hx2).mono ?_
  rintro e w1 ⟨rfl, g0, g1, g2, G⟩
  go_wp2_with fail
  go_end0
  exact ⟨rfl, g0, g1, g2, grown_trans (World.grownBy_alloc w _ _) G⟩

set_option maxHeartbeats 400000 in
/-- ZZnewPriorityRanges: a new block, all zero. -/
theorem zznew (w : World) :
    Calls Try.prog 17 #[] w fun e w' => e = .returned (.pointer (some ⟨w.heap.size, 0, none⟩)) ∧ HasQ w' w.heap.size 0 WR.zero ∧ HasQ w' w.heap.size 5 WR.zero ∧ HasQ w' w.heap.size 10 WR.zero ∧ w.grownBy w' none ∧ w.heap.size < w'.heap.size := by
  go_enter Try.func17, Try.ntmps17
  go_wp2
  go_ret
  refine ⟨rfl, ?_, ?_, ?_, World.grownBy_alloc _ _ _, by simp⟩
  all_goals (constructor <;> simp [World.cell?_alloc_at, WR.zero])
end Go.Proofs.Qxb6605703a
