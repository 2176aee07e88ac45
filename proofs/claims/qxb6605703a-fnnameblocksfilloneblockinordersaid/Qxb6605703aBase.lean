/- What the walks say of memory: 'Only': w' is w but for some cells of one block. 'HasWR': a wordRange lies in memory. -/
import Derived.WalkKit
import Derived.Deep.Draws
namespace Go.Proofs.Qxb6605703a
open Go Go.RowKit

theorem hide {p : Prop} (h : p) : Hid p := h

/-- w' is w, but for the cells lo .. hi-1 of block b (and for draws). -/
structure Only (w w' : World) (b lo hi : Nat) : Prop where
  os : w'.os = w.os
  tape : w'.tape = w.tape
  output : w'.output = w.output
  size : w'.heap.size = w.heap.size
  block : ∀ k, k ≠ b → w'.heap[k]? = w.heap[k]?
  cell : ∀ j, (j < lo ∨ hi ≤ j) → w'.cell? ⟨b, j, none⟩ = w.cell? ⟨b, j, none⟩
  frozen : ∀ j, w'.frozen? ⟨b, j, none⟩ = w.frozen? ⟨b, j, none⟩

theorem Only.refl (w : World) (b lo hi : Nat) : Only w w b lo hi := ⟨rfl, rfl, rfl, rfl, fun _ _ => rfl, fun _ _ => rfl, fun _ => rfl⟩
theorem Only.trans {a w w' : World} {b lo hi : Nat} (h : Only a w b lo hi) (k : Only w w' b lo hi) : Only a w' b lo hi :=
  ⟨k.os.trans h.os, k.tape.trans h.tape, k.output.trans h.output, k.size.trans h.size, fun i hi => (k.block i hi).trans (h.block i hi), fun i hi => (k.cell i hi).trans (h.cell i hi), fun i => (k.frozen i).trans (h.frozen i)⟩
theorem Only.drew {a w : World} {b lo hi : Nat} (h : Only a w b lo hi) : Only a w.drew b lo hi := ⟨h.os, h.tape, h.output, h.size, h.block, h.cell, h.frozen⟩
theorem Only.drewN {a w : World} {b lo hi : Nat} (n : Nat) (h : Only a w b lo hi) : Only a (w.drewN n) b lo hi := ⟨h.os, h.tape, h.output, h.size, h.block, h.cell, h.frozen⟩
theorem Only.setCell {a w : World} {b lo hi : Nat} (h : Only a w b lo hi) (j : Nat) (h1 : lo ≤ j) (h2 : j < hi) (v : Value) : Only a (w.setCell ⟨b, j, none⟩ v) b lo hi :=
  h.trans ⟨rfl, rfl, rfl, by simp, fun k hk => Below.heap_setCell _ _ _ _ hk, fun i hi => World.cell?_setCell_other _ _ _ _ (fun e => by have := congrArg Addr.off e; simp only at this; omega), fun i => by simp⟩
theorem Only.mono {w w' : World} {b lo hi lo' hi' : Nat} (h : Only w w' b lo hi) (h1 : lo' ≤ lo) (h2 : hi ≤ hi') : Only w w' b lo' hi' :=
  ⟨h.os, h.tape, h.output, h.size, h.block, fun j hj => h.cell j (by omega), h.frozen⟩

/-- At block b, offset o, lies a wordRange: first, least, most, step, seen; and it may be written. -/
structure HasWR (w : World) (b o : Nat) (f l m s : Int) (sn : Bool) : Prop where
  c0 : w.cell? ⟨b, o, none⟩ = some (.int .u64 f)
  c1 : w.cell? ⟨b, o + 1, none⟩ = some (.int .u64 l)
  c2 : w.cell? ⟨b, o + 2, none⟩ = some (.int .u64 m)
  c3 : w.cell? ⟨b, o + 3, none⟩ = some (.int .u64 s)
  c4 : w.cell? ⟨b, o + 4, none⟩ = some (.bool sn)
  z0 : w.frozen? ⟨b, o, none⟩ = false
  z1 : w.frozen? ⟨b, o + 1, none⟩ = false
  z2 : w.frozen? ⟨b, o + 2, none⟩ = false
  z3 : w.frozen? ⟨b, o + 3, none⟩ = false
  z4 : w.frozen? ⟨b, o + 4, none⟩ = false

theorem cell_far (w : World) (b i j : Nat) (v : Value) (h : i ≠ j) : (w.setCell ⟨b, i, none⟩ v).cell? ⟨b, j, none⟩ = w.cell? ⟨b, j, none⟩ :=
  World.cell?_setCell_other _ _ _ _ (fun e => h (congrArg Addr.off e))

theorem HasWR.drew {w : World} {b o : Nat} {f l m s : Int} {sn : Bool} (h : HasWR w b o f l m s sn) : HasWR w.drew b o f l m s sn := ⟨h.1, h.2, h.3, h.4, h.5, h.6, h.7, h.8, h.9, h.10⟩
theorem HasWR.drewN {w : World} {b o : Nat} {f l m s : Int} {sn : Bool} (n : Nat) (h : HasWR w b o f l m s sn) : HasWR (w.drewN n) b o f l m s sn := ⟨h.1, h.2, h.3, h.4, h.5, h.6, h.7, h.8, h.9, h.10⟩
theorem HasWR.set0 {w : World} {b o : Nat} {f l m s : Int} {sn : Bool} (h : HasWR w b o f l m s sn) (v : Int) : HasWR (w.setCell ⟨b, o, none⟩ (.int .u64 v)) b o v l m s sn :=
  ⟨World.cell?_setCell_same _ _ _ h.c0, by rw [cell_far _ _ _ _ _ (by omega)]; exact h.c1, by rw [cell_far _ _ _ _ _ (by omega)]; exact h.c2, by rw [cell_far _ _ _ _ _ (by omega)]; exact h.c3, by rw [cell_far _ _ _ _ _ (by omega)]; exact h.c4,
    by simpa using h.z0, by simpa using h.z1, by simpa using h.z2, by simpa using h.z3, by simpa using h.z4⟩
theorem HasWR.set1 {w : World} {b o : Nat} {f l m s : Int} {sn : Bool} (h : HasWR w b o f l m s sn) (v : Int) : HasWR (w.setCell ⟨b, o + 1, none⟩ (.int .u64 v)) b o f v m s sn :=
  ⟨by rw [cell_far _ _ _ _ _ (by omega)]; exact h.c0, World.cell?_setCell_same _ _ _ h.c1, by rw [cell_far _ _ _ _ _ (by omega)]; exact h.c2, by rw [cell_far _ _ _ _ _ (by omega)]; exact h.c3, by rw [cell_far _ _ _ _ _ (by omega)]; exact h.c4,
    by simpa using h.z0, by simpa using h.z1, by simpa using h.z2, by simpa using h.z3, by simpa using h.z4⟩
theorem HasWR.set2 {w : World} {b o : Nat} {f l m s : Int} {sn : Bool} (h : HasWR w b o f l m s sn) (v : Int) : HasWR (w.setCell ⟨b, o + 2, none⟩ (.int .u64 v)) b o f l v s sn :=
  ⟨by rw [cell_far _ _ _ _ _ (by omega)]; exact h.c0, by rw [cell_far _ _ _ _ _ (by omega)]; exact h.c1, World.cell?_setCell_same _ _ _ h.c2, by rw [cell_far _ _ _ _ _ (by omega)]; exact h.c3, by rw [cell_far _ _ _ _ _ (by omega)]; exact h.c4,
    by simpa using h.z0, by simpa using h.z1, by simpa using h.z2, by simpa using h.z3, by simpa using h.z4⟩
theorem HasWR.set3 {w : World} {b o : Nat} {f l m s : Int} {sn : Bool} (h : HasWR w b o f l m s sn) (v : Int) : HasWR (w.setCell ⟨b, o + 3, none⟩ (.int .u64 v)) b o f l m v sn :=
  ⟨by rw [cell_far _ _ _ _ _ (by omega)]; exact h.c0, by rw [cell_far _ _ _ _ _ (by omega)]; exact h.c1, by rw [cell_far _ _ _ _ _ (by omega)]; exact h.c2, World.cell?_setCell_same _ _ _ h.c3, by rw [cell_far _ _ _ _ _ (by omega)]; exact h.c4,
    by simpa using h.z0, by simpa using h.z1, by simpa using h.z2, by simpa using h.z3, by simpa using h.z4⟩
theorem HasWR.set4 {w : World} {b o : Nat} {f l m s : Int} {sn : Bool} (h : HasWR w b o f l m s sn) (v : Bool) : HasWR (w.setCell ⟨b, o + 4, none⟩ (.bool v)) b o f l m s v :=
  ⟨by rw [cell_far _ _ _ _ _ (by omega)]; exact h.c0, by rw [cell_far _ _ _ _ _ (by omega)]; exact h.c1, by rw [cell_far _ _ _ _ _ (by omega)]; exact h.c2, by rw [cell_far _ _ _ _ _ (by omega)]; exact h.c3, World.cell?_setCell_same _ _ _ h.c4,
    by simpa using h.z0, by simpa using h.z1, by simpa using h.z2, by simpa using h.z3, by simpa using h.z4⟩
theorem HasWR.eq {w : World} {b o : Nat} {f l m s f' l' m' s' : Int} {sn : Bool} (h : HasWR w b o f l m s sn) (hf : f = f') (hl : l = l') (hm : m = m') (hs : s = s') : HasWR w b o f' l' m' s' sn := by
  subst hf; subst hl; subst hm; subst hs; exact h
/-- Elsewhere in the block, or in another block: as it was. -/
theorem HasWR.only {w w' : World} {b o b' lo hi : Nat} {f l m s : Int} {sn : Bool} (h : HasWR w b o f l m s sn) (k : Only w w' b' lo hi) (hap : b ≠ b' ∨ o + 5 ≤ lo ∨ hi ≤ o) : HasWR w' b o f l m s sn := by
  by_cases e : b = b'
  · subst e
    have hap' : o + 5 ≤ lo ∨ hi ≤ o := by omega
    exact ⟨by rw [k.cell _ (by omega)]; exact h.c0, by rw [k.cell _ (by omega)]; exact h.c1, by rw [k.cell _ (by omega)]; exact h.c2, by rw [k.cell _ (by omega)]; exact h.c3, by rw [k.cell _ (by omega)]; exact h.c4,
      by rw [k.frozen]; exact h.z0, by rw [k.frozen]; exact h.z1, by rw [k.frozen]; exact h.z2, by rw [k.frozen]; exact h.z3, by rw [k.frozen]; exact h.z4⟩
  · have hb := k.block b e
    have hc : ∀ j, w'.cell? ⟨b, j, none⟩ = w.cell? ⟨b, j, none⟩ := fun j => World.cell?_of_block (a := ⟨b, j, none⟩) hb
    have hf : ∀ j, w'.frozen? ⟨b, j, none⟩ = w.frozen? ⟨b, j, none⟩ := fun j => World.frozen?_of_block (a := ⟨b, j, none⟩) hb
    exact ⟨by rw [hc]; exact h.c0, by rw [hc]; exact h.c1, by rw [hc]; exact h.c2, by rw [hc]; exact h.c3, by rw [hc]; exact h.c4,
      by rw [hf]; exact h.z0, by rw [hf]; exact h.z1, by rw [hf]; exact h.z2, by rw [hf]; exact h.z3, by rw [hf]; exact h.z4⟩

theorem Only.far {w w' : World} {b lo hi : Nat} (k : Only w w' b lo hi) (g j : Nat) (hg : g ≠ b) : w'.cell? ⟨g, j, none⟩ = w.cell? ⟨g, j, none⟩ := World.cell?_of_block (a := ⟨g, j, none⟩) (k.block g hg)
theorem Only.grown {w w' : World} {b lo hi : Nat} (k : Only w w' b lo hi) : w.grownBy w' (some b) :=
  ⟨k.os, k.tape, k.output, Nat.le_of_eq k.size.symm, fun i _ hi => k.block i (fun e => hi (by rw [e]))⟩
theorem grown_trans {a w w' : World} {r : Option Nat} (h : a.grownBy w r) (k : w.grownBy w' r) : a.grownBy w' r :=
  ⟨k.os.trans h.os, k.tape.trans h.tape, k.output.trans h.output, Nat.le_trans h.size k.size, fun i hi hr => (k.block i (Nat.lt_of_lt_of_le hi h.size) hr).trans (h.block i hi hr)⟩
theorem grown_drew {a w : World} {r : Option Nat} (h : a.grownBy w r) : a.grownBy w.drew r := ⟨h.os, h.tape, h.output, h.size, h.block⟩
theorem grown_drewN {a w : World} {r : Option Nat} (n : Nat) (h : a.grownBy w r) : a.grownBy (w.drewN n) r := ⟨h.os, h.tape, h.output, h.size, h.block⟩
theorem grown_alloc {a w : World} {r : Option Nat} (h : a.grownBy w r) (o : Obj) : a.grownBy (w.alloc o) r := grown_trans h (World.grownBy_alloc w o r)
end Go.Proofs.Qxb6605703a
