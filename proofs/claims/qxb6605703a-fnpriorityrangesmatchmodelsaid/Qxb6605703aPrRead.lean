import Derived.Test.Qxb6605703aRows
import Derived.Test.Qxb6605703aPrAdd
import Derived.WalkKit
import Derived.WalkSpells
import Derived.WalkLawsBesides
import Derived.BigRegion
import Derived.Deep.QuietTactic
import Derived.BigQuiet
namespace Go.Proofs.Qxb6605703a
open Go.RowKit

set_option maxRecDepth 100000 in
set_option maxHeartbeats 400000 in
/-- ZZwordRange -/
theorem zzword (b i : Nat) (hi : i < 3) (q : WR) (w : World) (h : HasQ w b (i * 5) q) :
    Calls Try.prog 19 #[.pointer (some ⟨b, 0, none⟩), .int .i64 i] w fun e w' =>
      e = .returned (.tuple #[.int .u64 q.first, .int .u64 q.least, .int .u64 q.most, .int .u64 q.step, .bool q.seen]) ∧ ∃ n, w' = w.drewN n := by
  obtain ⟨f, l, m, s, sn⟩ := q
  obtain ⟨h0, h1, h2, h3, h4, f0, f1, f2, f3, f4⟩ := h
  have i0 : (0 : Int) ≤ (i : Int) := by omega
  have i1 : (i : Int) < 3 := by omega
  simp only at h0 h1 h2 h3 h4
  go_enter Try.func19, Try.ntmps19
  go_wp2
  go_quiet (fail)
  go_wp2
  exact bodyPost_ret (v := .tuple #[.int .u64 f, .int .u64 l, .int .u64 m, .int .u64 s, .bool sn]) (by simp [results, Try.results19, go_sem]) rfl ⟨rfl, nq, rfl⟩

/-- The three ranges of a priorityRanges lie in block b. -/
def HasAll (w : World) (b : Nat) (q : Nat → WR) : Prop := ∀ i, i < 3 → HasQ w b (i * 5) (q i)

theorem HasAll.mk3 {w : World} {b : Nat} {q : Nat → WR} (h0 : HasQ w b 0 (q 0)) (h1 : HasQ w b 5 (q 1)) (h2 : HasQ w b 10 (q 2)) : HasAll w b q := by
  intro i hi
  match i, hi with
  | 0, _ => exact h0
  | 1, _ => exact h1
  | 2, _ => exact h2

theorem HasAll.grown {w w' : World} {b : Nat} {q : Nat → WR} {r : Option Nat} (h : HasAll w b q) (g : w.grownBy w' r) (hr : some b ≠ r) : HasAll w' b q := by
  intro i hi
  have h := h i hi
  have hb : b < w.heap.size := World.block_lt_of_cell? w _ h.c0
  have hc : ∀ j, w'.cell? ⟨b, j, none⟩ = w.cell? ⟨b, j, none⟩ := fun j => World.cell?_of_block (a := ⟨b, j, none⟩) (g.block b hb hr)
  have hf : ∀ j, w'.frozen? ⟨b, j, none⟩ = w.frozen? ⟨b, j, none⟩ := fun j => World.frozen?_of_block (a := ⟨b, j, none⟩) (g.block b hb hr)
  exact ⟨by rw [hc]; exact h.c0, by rw [hc]; exact h.c1, by rw [hc]; exact h.c2, by rw [hc]; exact h.c3, by rw [hc]; exact h.c4,
      by rw [hf]; exact h.z0, by rw [hf]; exact h.z1, by rw [hf]; exact h.z2, by rw [hf]; exact h.z3, by rw [hf]; exact h.z4⟩
theorem HasAll.drewN {w : World} {b : Nat} {q : Nat → WR} (n : Nat) (h : HasAll w b q) : HasAll (w.drewN n) b q := fun i hi => HasWR.drewN n (h i hi)
theorem HasAll.lt {w : World} {b : Nat} {q : Nat → WR} (h : HasAll w b q) : b < w.heap.size := World.block_lt_of_cell? w _ (h 0 (by omega)).c0

/-- ZZaddPriority, all three words. -/
theorem zzaddA (b : Nat) (q : Nat → WR) (x : Nat → Nat) (w : World) (h : HasAll w b q) (k : ∀ i, (q i).Ok) (hx : ∀ i, x i < 18446744073709551616) :
    Calls Try.prog 18 #[.pointer (some ⟨b, 0, none⟩), .agg #[.int .u64 (x 0), .int .u64 (x 1), .int .u64 (x 2)]] w fun e w' =>
      e = .returned (.tuple #[]) ∧ HasAll w' b (fun i => (q i).add (x i)) ∧ w.grownBy w' (some b) :=
  (zzadd b (q 0) (q 1) (q 2) (x 0) (x 1) (x 2) w (h 0 (by omega)) (h 1 (by omega)) (h 2 (by omega)) (k 0) (k 1) (k 2) (hx 0) (hx 1) (hx 2)).mono fun _ _ ⟨he, g0, g1, g2, G⟩ => ⟨he, HasAll.mk3 g0 g1 g2, G⟩

theorem zznewA (w : World) : Calls Try.prog 17 #[] w fun e w' => e = .returned (.pointer (some ⟨w.heap.size, 0, none⟩)) ∧ HasAll w' w.heap.size (fun _ => WR.zero) ∧ w.grownBy w' none :=
  (zznew w).mono fun _ _ ⟨he, g0, g1, g2, G, _⟩ => ⟨he, HasAll.mk3 g0 g1 g2, G⟩

/-- What the law's own memory holds: nothing old has turned; the triples z lie in block N. -/
structure TRel (w wr : World) (N n : Nat) (z : Nat → Nat → Nat) : Prop where
  below : Below w.heap.size w wr
  own : w.heap.size ≤ N
  size : N < wr.heap.size
  cells : ∀ i j, i < n → j < 3 → wr.cell? ⟨N, i * 3 + j, none⟩ = some (.int .u64 (z i j))

theorem TRel.grown {w wr w' : World} {N n : Nat} {z : Nat → Nat → Nat} {r : Option Nat} (h : TRel w wr N n z) (g : wr.grownBy w' r) (hr : ∀ k, r = some k → N < k) : TRel w w' N n z := by
  have hN : some N ≠ r := fun e => by have := hr N e.symm; omega
  refine ⟨h.below.grown g (by have := h.size; have := h.own; omega) (fun k hk => by have := hr k hk; have := h.own; omega), h.own, by have := h.size; have := g.size; omega, fun i j hi hj => ?_⟩
  rw [World.cell?_of_block (a := ⟨N, i * 3 + j, none⟩) (g.block N h.size hN)]
  exact h.cells i j hi hj
theorem TRel.drewN {w wr : World} {N n : Nat} {z : Nat → Nat → Nat} (m : Nat) (h : TRel w wr N n z) : TRel w (wr.drewN m) N n z :=
  ⟨⟨h.below.os, h.below.tape, h.below.output, h.below.size, h.below.block⟩, h.own, h.size, h.cells⟩
end Go.Proofs.Qxb6605703a
