/- A script of sets, plain. -/
import Derived.Test.Qxb6605773aExact
namespace Go.Proofs.Qxb6605773a
open Go.RowKit

/-- The clock after k sets. -/
def scr (zs : List Int) (N : Nat → Nat) (T : Nat → Int) : Nat → List Int
  | 0 => zs
  | k + 1 => setAt (scr zs N T k) (N k) (T k)
/-- The length that is wanted after k sets. -/
def wantTo (len : Nat) (N : Nat → Nat) : Nat → Nat
  | 0 => len
  | k + 1 => max (wantTo len N k) (N k + 1)
/-- Has one of the first k sets gone to index i? -/
def tchd (N : Nat → Nat) (i : Nat) : Nat → Bool
  | 0 => false
  | k + 1 => if N k = i then true else tchd N i k

theorem scr_length (zs : List Int) (N : Nat → Nat) (T : Nat → Int) : ∀ k, (scr zs N T k).length = wantTo zs.length N k
  | 0 => rfl
  | k + 1 => by rw [scr, setAt_length, scr_length zs N T k, wantTo]
theorem scr_untouched (zs : List Int) (N : Nat → Nat) (T : Nat → Int) (i : Nat) : ∀ k, tchd N i k = false → (scr zs N T k).getD i 0 = zs.getD i 0
  | 0, _ => rfl
  | k + 1, h => by
    rw [tchd] at h
    by_cases e : N k = i
    · rw [if_pos e] at h; cases h
    · rw [if_neg e] at h
      rw [scr, setAt_get, if_neg (fun e' => e e'.symm)]
      exact scr_untouched zs N T i k h
theorem scr_last (zs : List Int) (N : Nat → Nat) (T : Nat → Int) (k n : Nat) (hn : ∀ j, k < j → j < n → N j ≠ N k) : ∀ m, k + 1 ≤ m → m ≤ n → (scr zs N T m).getD (N k) 0 = T k
  | 0, h, _ => absurd h (by omega)
  | m + 1, h, h2 => by
    rw [scr, setAt_get]
    by_cases e : N k = N m
    · rw [if_pos e]
      by_cases e2 : k = m
      · rw [e2]
      · exact absurd e.symm (hn m (by omega) (by omega))
    · rw [if_neg e]
      by_cases e2 : k = m
      · subst e2; exact absurd rfl e
      · exact scr_last zs N T k n hn m (by omega) (by omega)
theorem wantTo_gt (len : Nat) (N : Nat → Nat) (k : Nat) : ∀ n, k < n → N k < wantTo len N n
  | 0, h => absurd h (by omega)
  | n + 1, h => by
    rw [wantTo]
    by_cases e : k = n
    · subst e; omega
    · have := wantTo_gt len N k n (by omega); omega
theorem wantTo_le (len : Nat) (N : Nat → Nat) (hl : len ≤ 131072) : ∀ n, (∀ j, j < n → N j ≤ 65536) → wantTo len N n ≤ 131072
  | 0, _ => hl
  | n + 1, h => by
    rw [wantTo]
    have := wantTo_le len N hl n (fun j hj => h j (by omega))
    have := h n (by omega)
    omega
theorem wantTo_ge (len : Nat) (N : Nat → Nat) : ∀ n, len ≤ wantTo len N n
  | 0 => Nat.le_refl _
  | n + 1 => by rw [wantTo]; have := wantTo_ge len N n; omega

/-- Two owned rows of two types lie in two blocks. -/
theorem own_apart {w : World} {B B' : Nat} {e e' : TypeId} {v v' : Value} {n n' : Nat} {xs xs' : List Value} (h : w.ownsRow B e 1 v n xs) (h' : w.ownsRow B' e' 1 v' n' xs') (he : e' ≠ e) : v.ownBlock = none ∨ v.ownBlock ≠ v'.ownBlock := by
  rcases h'.2 with ⟨rfl, _⟩ | ⟨g, cap, cur, rfl, _, hg, _⟩
  · cases hv : v.ownBlock <;> simp [Value.ownBlock]
  · exact .inr (own_ne h hg he)

/-- The flags after k sets. -/
def Flags (xs : List Value) (N : Nat → Nat) (L k : Nat) : Prop := ∀ i, i < L → xs[i]? = some (.bool (tchd N i k))

theorem Flags.step {xs : List Value} {N : Nat → Nat} {L k : Nat} (h : Flags xs N L k) (hl : xs.length = L * 1) : Flags (xs.set (N k) (.bool true)) N L (k + 1) := fun i hi => by
  rw [tchd]
  by_cases e : N k = i
  · subst e; rw [List.getElem?_set_self (by omega), if_pos rfl]
  · rw [List.getElem?_set_ne e, if_neg e]; exact h i hi

theorem made_flags (L : Nat) (N : Nat → Nat) : Flags (madeCells (Value.bool false).cells (L * 1)).toList N L 0 := fun i hi => by
  rw [tchd]
  simp [madeCells, Value.cells, hi]
  rw [Nat.mod_one]
  rfl
end Go.Proofs.Qxb6605773a
