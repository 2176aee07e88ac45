/- Plain sums and joins of the names; what the second law's memory holds. -/
import Derived.Test.Qxb6605703aKRel
namespace Go.Proofs.Qxb6605703a
open Go.RowKit

/-- The lengths of the first k names, added up; their bytes, joined. -/
def sumTo (ss : Nat → ByteArray) : Nat → Nat
  | 0 => 0
  | k + 1 => sumTo ss k + (ss k).size
def joinTo (ss : Nat → ByteArray) : Nat → List UInt8
  | 0 => []
  | k + 1 => joinTo ss k ++ (ss k).data.toList

theorem joinTo_length (ss : Nat → ByteArray) : ∀ k, (joinTo ss k).length = sumTo ss k
  | 0 => rfl
  | k + 1 => by rw [joinTo, sumTo, List.length_append, joinTo_length ss k, Lib.size_eq]
theorem sumTo_mono (ss : Nat → ByteArray) (k : Nat) : ∀ n, k ≤ n → sumTo ss k ≤ sumTo ss n
  | 0, h => by obtain rfl : k = 0 := by omega
               exact Nat.le_refl _
  | n + 1, h => by
    by_cases e : k = n + 1
    · subst e; exact Nat.le_refl _
    · rw [sumTo]; have := sumTo_mono ss k n (by omega); omega

/-- How much room the block has when it holds n bytes. -/
def RoomOk (n cap : Nat) : Prop := (n = 0 ∧ cap = 0) ∨ (0 < n ∧ 65536 ≤ cap)

/-- What keep makes of the block, all names together being at most 65536 bytes. -/
theorem fill_keep {l l' : List UInt8} {s : ByteArray} {cap cap' : Nat} (hr : RoomOk l.length cap) (hs : l.length + s.size ≤ 65536)
    (h : (l.length + s.size ≤ cap ∧ l' = l ++ s.data.toList ∧ cap' = cap) ∨ (cap < l.length + s.size ∧ l' = s.data.toList ∧ 65536 ≤ cap')) : l' = l ++ s.data.toList ∧ RoomOk (l.length + s.size) cap' := by
  rcases hr with ⟨h0, rfl⟩ | ⟨h0, h1⟩
  · have hl : l = [] := List.eq_nil_of_length_eq_zero h0
    subst hl
    rcases h with ⟨ha, hb, rfl⟩ | ⟨ha, hb, hc⟩
    · exact ⟨hb, .inl ⟨by omega, rfl⟩⟩
    · exact ⟨by rw [hb]; rfl, .inr ⟨by omega, hc⟩⟩
  · rcases h with ⟨ha, hb, rfl⟩ | ⟨ha, hb, hc⟩
    · exact ⟨hb, .inr ⟨by omega, h1⟩⟩
    · omega

theorem KRel.grown {w wr w' : World} {N k B len : Nat} {ss : Nat → ByteArray} {l : List UInt8} {cap : Nat} (h : KRel w wr N k B len ss l cap) (r : Option Nat) (g : wr.grownBy w' r) (hr : ∀ i, r = some i → k < i ∧ i < B) : KRel w w' N k B len ss l cap := by
  have hlt := h.lt
  obtain ⟨p, hp, hk, hB, u, hb, hbuf⟩ := h.nb
  have hkey : ∀ i, i < wr.heap.size → (i ≤ k ∨ B ≤ i) → w'.heap[i]? = wr.heap[i]? := fun i hi hc => g.block i hi (fun e => by have := hr i e.symm; omega)
  refine ⟨h.below.trans ⟨g.os, g.tape, g.output, g.size, fun i hi => hkey i (by omega) (by omega)⟩, hlt, fun i hi => ?_, p, hp, hk, by have := g.size; omega, u, ?_, hbuf.kept (fun i hi hs => hkey i hs (by omega))⟩
  · rw [World.cell?_of_block (a := ⟨N, i, none⟩) (hkey N (by omega) (by omega))]
    exact h.names i hi
  · rw [hkey k (by omega) (by omega)]; exact hb

theorem own_keeps {w w' : World} {B k g n cap : Nat} {xs : List Value} {base : Nat} (h : w.ownsRow base 5 1 (.slice (some ⟨g, 0, none⟩) n cap) n xs) (q : Keeps B k w w') (h1 : g < B) (h2 : g ≠ k) : w'.ownsRow base 5 1 (.slice (some ⟨g, 0, none⟩) n cap) n xs := by
  refine ⟨h.1, ?_⟩
  rcases h.2 with h' | ⟨g', cp, cur, hv, hb, hg, rest⟩
  · exact .inl h'
  · refine .inr ⟨g', cp, cur, hv, hb, ?_, rest⟩
    injection hv with hv _ _
    injection hv with hv
    injection hv with hv _ _
    subst hv
    rw [q.block g h1 h2]; exact hg
theorem own_drewN {w : World} {base n : Nat} {v : Value} {xs : List Value} (m : Nat) (h : w.ownsRow base 5 1 v n xs) : (w.drewN m).ownsRow base 5 1 v n xs := h

theorem bytes_take (l : List UInt8) (s : ByteArray) (j : Nat) (hj : j < s.size) : Lib.byteCells (l ++ s.data.toList.take (j + 1)) = Lib.byteCells (l ++ s.data.toList.take j) ++ [.int .u8 ((s[j]).toNat : Int)] := by
  have : s.data.toList.take (j + 1) = s.data.toList.take j ++ [s[j]] := by rw [List.take_succ_eq_append_getElem (by simpa using hj)]; rfl
  rw [this, ← List.append_assoc, Lib.byteCells_append]
  rfl
end Go.Proofs.Qxb6605703a
