/- What the law's own memory holds while names are kept. -/
import Derived.Test.Qxb6605703aBase
import Derived.Test.Qxb6605703aBld
import Derived.Test.Qxb6605703aNames
namespace Go.Proofs.Qxb6605703a
open Go.RowKit

/-- names in block N, the nameBlocks in block k; blocks below B but k stand. -/
structure KRel (w wr : World) (N k B len : Nat) (ss : Nat → ByteArray) (l : List UInt8) (cap : Nat) : Prop where
  below : Below w.heap.size w wr
  lt : w.heap.size ≤ N ∧ N < k ∧ k < B
  names : ∀ j, j < len → wr.cell? ⟨N, j, none⟩ = some (.string (ss j))
  nb : ∃ p, Own k p ∧ NB wr B k p l cap

theorem KRel.keeps {w wr w' : World} {N k B len : Nat} {ss : Nat → ByteArray} {l l' : List UInt8} {cap cap' : Nat} (h : KRel w wr N k B len ss l cap) (g : Keeps B k wr w') (hn : ∃ p, Own k p ∧ NB w' B k p l' cap') : KRel w w' N k B len ss l' cap' := by
  have hlt := h.lt
  refine ⟨h.below.trans ⟨g.os, g.tape, g.output, g.size, fun i hi => g.block i (by omega) (by omega)⟩, hlt, fun j hj => ?_, hn⟩
  rw [World.cell?_of_block (a := ⟨N, j, none⟩) (g.block N (by omega) (by omega))]
  exact h.names j hj

theorem KRel.drewN {w wr : World} {N k B len : Nat} {ss : Nat → ByteArray} {l : List UInt8} {cap : Nat} (n : Nat) (h : KRel w wr N k B len ss l cap) : KRel w (wr.drewN n) N k B len ss l cap := by
  obtain ⟨p, hp, hn⟩ := h.nb
  exact h.keeps ((Keeps.refl _ _ _).drewN n) ⟨p, hp, hn.drewN n⟩

/-- Where a block Kp below B, not N and not k, is written. -/
theorem KRel.store {w wr : World} {N k B len : Nat} {ss : Nat → ByteArray} {l : List UInt8} {cap : Nat} (h : KRel w wr N k B len ss l cap) (Kp j : Nat) (h1 : k < Kp) (h2 : Kp < B) (v : Value) : KRel w (wr.setCell ⟨Kp, j, none⟩ v) N k B len ss l cap := by
  have hlt := h.lt
  obtain ⟨p, hp, hk, hB, u, hb, hbuf⟩ := h.nb
  refine ⟨h.below.setCell (p := ⟨Kp, j, none⟩) (by show _ ≤ Kp; omega) v, hlt, fun i hi => ?_, p, hp, hk, by simpa using hB, u, ?_, hbuf.kept (fun g hg _ => Below.heap_setCell _ _ _ _ (by show g ≠ Kp; omega))⟩
  · rw [World.cell?_of_block (a := ⟨N, i, none⟩) (Below.heap_setCell _ _ _ _ (by show N ≠ Kp; omega))]
    exact h.names i hi
  · rw [Below.heap_setCell _ _ _ _ (by show k ≠ Kp; omega)]
    exact hb

/-- The names kept so far lie in block Kp. -/
structure Kept (wr : World) (Kp len i : Nat) (ss : Nat → ByteArray) : Prop where
  there : wr.there Kp 0 len
  cells : ∀ j, j < i → wr.cell? ⟨Kp, j, none⟩ = some (.string (ss j))

theorem Kept.keeps {wr w' : World} {Kp len i : Nat} {ss : Nat → ByteArray} {B k : Nat} (h : Kept wr Kp len i ss) (g : Keeps B k wr w') (h1 : Kp < B) (h2 : Kp ≠ k) : Kept w' Kp len i ss := by
  have hb := g.block Kp h1 h2
  refine ⟨fun j hj => ?_, fun j hj => ?_⟩
  · rw [World.cell?_of_block (a := ⟨Kp, 0 + j, none⟩) hb, World.frozen?_of_block (a := ⟨Kp, 0 + j, none⟩) hb]; exact h.there j hj
  · rw [World.cell?_of_block (a := ⟨Kp, j, none⟩) hb]; exact h.cells j hj

theorem Kept.drewN {wr : World} {Kp len i : Nat} {ss : Nat → ByteArray} (n : Nat) (h : Kept wr Kp len i ss) : Kept (wr.drewN n) Kp len i ss := ⟨h.there, h.cells⟩

theorem Kept.step {wr : World} {Kp len i : Nat} {ss : Nat → ByteArray} (h : Kept wr Kp len i ss) (hi : i < len) : Kept (wr.setCell ⟨Kp, i, none⟩ (.string (ss i))) Kp len (i + 1) ss := by
  refine ⟨there_set h.there _ _, fun j hj => ?_⟩
  obtain ⟨v0, g0⟩ := cell_is h.there i hi
  by_cases e : j = i
  · subst e; exact World.cell?_setCell_same _ _ _ g0
  · rw [cell_far _ _ _ _ _ (by omega)]; exact h.cells j (by omega)
end Go.Proofs.Qxb6605703a
