/- Plain laws for FnLearnWriteScriptLatest, and the new frontier. -/
import Derived.Test.Qxb6605773aRows
import Derived.Test.Qxb6605773aBase
import Derived.Test.Qxb6605773aLast
import Derived.Test.Qxb6605773aFr1
import Derived.Test.Qxb6605773aFr2
import Derived.Test.Qxb6605773aFr3
import Derived.Test.Qxb6605773aFr4
import Derived.Test.Qxb6605773aFr5
import Derived.Deep.OwnRows
namespace Go.Proofs.Qxb6605773a
open Go.RowKit

/-- What each site is known to have written last, behind k writes. -/
def entTo (ss : Nat → ByteArray) (me : Int) (qs : Nat → WA) : Nat → Nat → Int × Bool × List Int
  | 0 => fun _ => (0, true, [])
  | k + 1 => learnt ss me (qs k).site ((qs k).t, (qs k).pa.isNone, (qs k).pz) (entTo ss me qs k)

theorem ent_self (ss : Nat → ByteArray) (me : Int) (qs : Nat → WA) (j : Nat) (hj : (j : Int) = me) : ∀ k, entTo ss me qs k j = (0, true, [])
  | 0 => rfl
  | k + 1 => by
    rw [entTo, learnt, if_neg (fun h => h.2 hj)]
    exact ent_self ss me qs j hj k
theorem ent_none (ss : Nat → ByteArray) (me : Int) (qs : Nat → WA) (j : Nat) : ∀ k, (∀ i, i < k → (qs i).site ≠ ss j) → entTo ss me qs k j = (0, true, [])
  | 0, _ => rfl
  | k + 1, h => by
    rw [entTo, learnt, if_neg (fun h' => h k (by omega) h'.1.symm)]
    exact ent_none ss me qs j k (fun i hi => h i (by omega))
theorem ent_last (ss : Nat → ByteArray) (me : Int) (qs : Nat → WA) (j m : Nat) (hj : (j : Int) ≠ me) (hm : (qs m).site = ss j) : ∀ d, (∀ i, m < i → i < m + 1 + d → (qs i).site ≠ ss j) → entTo ss me qs (m + 1 + d) j = ((qs m).t, (qs m).pa.isNone, (qs m).pz)
  | 0, _ => by
    rw [Nat.add_zero, entTo, learnt, if_pos ⟨hm.symm, hj⟩]
  | d + 1, h => by
    rw [← Nat.add_assoc, entTo, learnt, if_neg (fun h' => h (m + 1 + d) (by omega) (by omega) h'.1.symm)]
    exact ent_last ss me qs j m hj hm d (fun i h1 h2 => h i h1 (by omega))

theorem belowOf {w wr : World} (G : w.grownBy wr none) : Below w.heap.size w wr := (Below.refl _ _).grown G (Nat.le_refl _) (fun k hk => by cases hk)

theorem IsSites.grown {w w' : World} {b off ns : Nat} {ss : Nat → ByteArray} (h : IsSites w b off ns ss) (g : w.grownBy w' none) : IsSites w' b off ns ss :=
  ⟨Nat.lt_of_lt_of_le h.1 g.size, fun i hi => g.cell (h.2 i hi) (by simp)⟩
theorem WCells.grown {w w' : World} {b o : Nat} {q : WA} (h : WCells w b o q) (g : w.grownBy w' none) : WCells w' b o q :=
  ⟨g.cell h.c0 (by simp), g.cell h.c1 (by simp), g.cell h.c2 (by simp), g.cell h.c3 (by simp), g.cell h.c4 (by simp), g.cell h.c5 (by simp), g.cell h.c6 (by simp), g.cell h.c7 (by simp)⟩
theorem WA.Ok.grown {w w' : World} {q : WA} (h : q.Ok w) (g : w.grownBy w' none) : q.Ok w' := ⟨h.key, h.site, h.value.grown g, h.past.grown g⟩

/-- A []int64 that came in, read. -/
theorem Rd.ofInts {w wr : World} {X : Nat} {a : Option Addr} {len cap : Nat} {zs : List Int} (h : IsInts w a len cap zs) (g : w.grownBy wr none) (hX : w.heap.size ≤ X) : Rd wr X (.slice a len cap) a.isNone zs := by
  obtain rfl := h.1
  refine ⟨a, cap, rfl, rfl, h.le, fun h0 => ?_⟩
  obtain ⟨b, off, e, hb, hc⟩ := h.get h0
  exact ⟨b, off, e, Nat.lt_of_lt_of_le hb g.size, by omega, fun i hi => g.cell (hc i hi) (by simp)⟩

theorem Try.info61 : (Try.prog.info? 61).map (fun i => (i.zero, i.size, i.bytes)) = some (some (.agg #[.int .i64 0, .slice none 0 0]), 2, 32) := by kernel_rfl

/-- The new row of 'wrote'. -/
def newWr (ns : Nat) : Obj := .cells (madeCells #[.int .i64 0, .slice none 0 0] (ns * 2)) 61

theorem make58 (ns : Nat) (h : ns ≤ 4096) (W : World) : (Instr.makeSlice 58 (.int .i64 ns) (.int .i64 ns)).run Try.prog W = .ok (.slice (some ⟨W.heap.size, 0, none⟩) ns ns) (W.alloc (newWr ns)) := by
  obtain ⟨i, hi, hz, hs, hb⟩ := info_parts Try.info61
  have hr := run_make (P := Try.prog) W 58 61 i _ Try.underlying58 hi hz .i64 .i64 ns ns (by omega) (Int.le_refl _) (by rw [hb]; omega) (by omega)
  simp only [Int.toNat_natCast, hs, Value.cells] at hr
  exact hr

theorem made0 (ns j : Nat) (h : j < ns) : (madeCells #[.int .i64 0, .slice none 0 0] (ns * 2))[j * 2]? = some (.int .i64 0) := by
  have : j * 2 < ns * 2 := by omega
  simp [madeCells, this]
theorem made1 (ns j : Nat) (h : j < ns) : (madeCells #[.int .i64 0, .slice none 0 0] (ns * 2))[j * 2 + 1]? = some (.slice none 0 0) := by
  have : j * 2 + 1 < ns * 2 := by omega
  simp [madeCells, this, Nat.add_mod]

/-- The new frontier. -/
theorem FRel.start {w w3 : World} {F N Wr ns : Nat} {me : Int} {ss : Nat → ByteArray} (G : w.grownBy w3 none) (hB : w.heap.size ≤ Wr) (hF : F < w3.heap.size) (hN : N < w3.heap.size) (n1 : Wr ≠ F) (n2 : Wr ≠ N)
    (f0 : w3.cell? ⟨F, 0, none⟩ = some (.slice (some ⟨N, 0, none⟩) ns ns)) (f2 : w3.cell? ⟨F, 2, none⟩ = some (.int .i64 me)) (f3 : w3.cell? ⟨F, 3, none⟩ = some (.slice (some ⟨Wr, 0, none⟩) ns ns))
    (hn : ∀ i, i < ns → w3.cell? ⟨N, i, none⟩ = some (.string (ss i))) (hW : w3.heap[Wr]? = some (newWr ns)) : FRel w w3 F N Wr ns me ss (fun _ => (0, true, [])) :=
  ⟨G, hB, ⟨f0, f2, f3, hn, ⟨hF, hN, heap_lt hW⟩, ⟨n1, n2⟩, fun i => frozen_heap hW i⟩, fun j hj => ⟨.slice none 0 0, by rw [cell_heap hW]; exact made0 ns j hj, by rw [cell_heap hW]; exact made1 ns j hj, Rd.nil _ _⟩⟩

theorem size_new (w : World) (o : Obj) : (w.alloc o).heap.size = w.heap.size + 1 := by simp
theorem heap_new (w : World) (o : Obj) : (w.alloc o).heap[w.heap.size]? = some o := Array.getElem?_push_size

/-- The names were copied first. -/
theorem FRel.ordA {w W w1 w3 : World} {ns : Nat} {me : Int} {ss : Nat → ByteArray} (G : w.grownBy W none) (g1 : W.drew.grownBy w1 none) (l1 : W.drew.heap.size < w1.heap.size)
    (c1 : ∀ i, i < ns → w1.cell? ⟨W.drew.heap.size, i, none⟩ = some (.string (ss i))) (g3 : (w1.alloc (newWr ns)).grownBy w3 none) (l3 : (w1.alloc (newWr ns)).heap.size < w3.heap.size)
    (f0 : w3.cell? ⟨(w1.alloc (newWr ns)).heap.size, 0, none⟩ = some (.slice (some ⟨W.heap.size, 0, none⟩) ns ns)) (f2 : w3.cell? ⟨(w1.alloc (newWr ns)).heap.size, 2, none⟩ = some (.int .i64 me))
    (f3 : w3.cell? ⟨(w1.alloc (newWr ns)).heap.size, 3, none⟩ = some (.slice (some ⟨w1.heap.size, 0, none⟩) ns ns)) :
    FRel w w3 (w1.alloc (newWr ns)).heap.size W.heap.size w1.heap.size ns me ss (fun _ => (0, true, [])) := by
  have k0 : W.grownBy w1 none := ⟨g1.os, g1.tape, g1.output, g1.size, g1.block⟩
  have k := grown_trans G k0
  have ka := World.grownBy_alloc w1 (newWr ns) none
  have hs := size_new w1 (newWr ns)
  have l1' : W.heap.size < w1.heap.size := l1
  refine FRel.start (grown_trans (grown_trans k ka) g3) k.size l3 (by have := g3.size; omega) (by omega) (by omega) f0 f2 f3 (fun i hi => (grown_trans ka g3).cell (c1 i hi) (by simp)) ?_
  rw [g3.block _ (by omega) (by simp)]
  exact heap_new w1 _

/-- The row was made first. -/
theorem FRel.ordB {w W w1 w3 : World} {ns : Nat} {me : Int} {ss : Nat → ByteArray} (G : w.grownBy W none) (g1 : (W.alloc (newWr ns)).drew.grownBy w1 none) (l1 : (W.alloc (newWr ns)).drew.heap.size < w1.heap.size)
    (c1 : ∀ i, i < ns → w1.cell? ⟨(W.alloc (newWr ns)).drew.heap.size, i, none⟩ = some (.string (ss i))) (g3 : w1.grownBy w3 none) (l3 : w1.heap.size < w3.heap.size)
    (f0 : w3.cell? ⟨w1.heap.size, 0, none⟩ = some (.slice (some ⟨W.heap.size + 1, 0, none⟩) ns ns)) (f2 : w3.cell? ⟨w1.heap.size, 2, none⟩ = some (.int .i64 me))
    (f3 : w3.cell? ⟨w1.heap.size, 3, none⟩ = some (.slice (some ⟨W.heap.size, 0, none⟩) ns ns)) :
    FRel w w3 w1.heap.size (W.heap.size + 1) W.heap.size ns me ss (fun _ => (0, true, [])) := by
  have k0 : (W.alloc (newWr ns)).grownBy w1 none := ⟨g1.os, g1.tape, g1.output, g1.size, g1.block⟩
  have ka := World.grownBy_alloc W (newWr ns) none
  have k := grown_trans (grown_trans (grown_trans G ka) k0) g3
  have hs := size_new W (newWr ns)
  have l1' : (W.alloc (newWr ns)).heap.size < w1.heap.size := l1
  have c1' : ∀ i, i < ns → w1.cell? ⟨W.heap.size + 1, i, none⟩ = some (.string (ss i)) := fun i hi => by
    have := c1 i hi
    rw [show (W.alloc (newWr ns)).drew.heap.size = W.heap.size + 1 from hs] at this
    exact this
  have hG := G.size
  refine FRel.start k hG l3 (by omega) (by omega) (by omega) f0 f2 f3 (fun i hi => g3.cell (c1' i hi) (by simp)) ?_
  rw [g3.block _ (by omega) (by simp), k0.block _ (by omega) (by simp)]
  exact heap_new W _
end Go.Proofs.Qxb6605773a
