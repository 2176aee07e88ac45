/- Leaves on the road of FnLearnWriteScriptLatest: b1SameInts, b1SortedDistinct, b1CloneStrings, b1CloneBytes. -/
import Derived.Test.Qxb6605773aRows
import Derived.Test.Qxb6605773aBase
import Derived.Test.Qxb6605773aCloneInts
import Derived.WalkKit
import Derived.WalkSpells
import Derived.WalkLawsBesides
import Derived.Lib.SliceRun
import Derived.LoopN
import Derived.Deep.QuietTactic
import Derived.BigQuiet
namespace Go.Proofs.Qxb6605773a
open Go.RowKit

/-- v can be read as the numbers zs (nil or not), out of a block that is not X. -/
def Rd (w : World) (X : Nat) (v : Value) (nl : Bool) (zs : List Int) : Prop :=
  ∃ a c, v = .slice a zs.length c ∧ a.isNone = nl ∧ zs.length ≤ 9223372036854775807 ∧
    (0 < zs.length → ∃ b off, a = some ⟨b, off, none⟩ ∧ b < w.heap.size ∧ b ≠ X ∧ ∀ i, i < zs.length → w.cell? ⟨b, off + i, none⟩ = some (.int .i64 (zs.getD i 0)))

theorem Rd.grown {w w' : World} {X : Nat} {v : Value} {nl : Bool} {zs : List Int} {r : Option Nat} (h : Rd w X v nl zs) (g : w.grownBy w' r) (hr : ∀ i, r = some i → i = X) : Rd w' X v nl zs := by
  obtain ⟨a, c, h1, h2, h3, h4⟩ := h
  refine ⟨a, c, h1, h2, h3, fun h0 => ?_⟩
  obtain ⟨b, off, e, hb, hx, hc⟩ := h4 h0
  refine ⟨b, off, e, Nat.lt_of_lt_of_le hb g.size, hx, fun i hi => ?_⟩
  rw [World.cell?_of_block (a := ⟨b, off + i, none⟩) (g.block b hb (fun e => hx (hr b e.symm)))]
  exact hc i hi
theorem Rd.dN {w : World} {X : Nat} {v : Value} {nl : Bool} {zs : List Int} (n : Nat) (h : Rd w X v nl zs) : Rd (w.drewN n) X v nl zs := h
theorem Rd.nil (w : World) (X : Nat) : Rd w X (.slice none 0 0) true [] := ⟨none, 0, rfl, rfl, by simp, fun h => absurd h (by simp)⟩

set_option maxRecDepth 100000 in
set_option maxHeartbeats 400000 in
/-- b1SameInts of two that read alike. -/
theorem sameInts (X X' : Nat) (v v' : Value) (nl : Bool) (zs : List Int) (w : World) (h : Rd w X v nl zs) (h' : Rd w X' v' nl zs) :
    Calls Try.prog 28 #[v, v'] w fun e w' => e = .returned (.bool true) ∧ ∃ n, w' = w.drewN n := by
  obtain ⟨a, c, rfl, hn, hl, hc⟩ := h
  obtain ⟨a', c', rfl, hn', _, hc'⟩ := h'
  have q := nil22
  have HC := hide hc
  have HC' := hide hc'
  clear hc hc'
  go_enter Try.func28, Try.ntmps28
  go_wp2_with fail
  go_loopw [5] (fun i wr => ∃ (k n : Nat), k ≤ zs.length ∧ i = .int .i64 k ∧ wr = w.drewN n) (fun i _ => zs.length - (intOf i).toNat)
  case atStart => exact ⟨0, 0, Nat.zero_le _, rfl, rfl⟩
  case round =>
    clear q hn hn'
    obtain ⟨k, n, hk, rfl, rfl⟩ := hrel
    by_cases hlt : k < zs.length
    · obtain ⟨b, off, rfl, _, _, hc⟩ := HC.out (by omega)
      obtain ⟨b', off', rfl, _, _, hc'⟩ := HC'.out (by omega)
      have r0 := hc k hlt
      have r1 := hc' k hlt
      clear hc hc' HC HC'
      generalize zs.getD k 0 = z at *
      go_wp2_with fail
      go_quiet (fail)
      go_wp2_with fail
      go_roundw
      case rel => exact ⟨k + 1, _, by omega, by go_num, rfl⟩
      case measure => simp [intOf]; omega
    · go_wp2_with fail
      go_ret
      exact ⟨rfl, n, rfl⟩

/-- The sites that came in: ns strings, at least one. -/
def IsSites (w : World) (b off ns : Nat) (ss : Nat → ByteArray) : Prop := b < w.heap.size ∧ ∀ i, i < ns → w.cell? ⟨b, off + i, none⟩ = some (.string (ss i))

/-- It answers some bool, and true only where ok; the world stands but for draws. -/
def AskedN (ok : Prop) (w : World) (e : Ending) (w' : World) : Prop := ∃ bb, e = .returned (.bool bb) ∧ (bb = true → ok) ∧ ∃ n, w' = w.drewN n

/-- Each site's name is less than the next one's. -/
def Sorted (ns : Nat) (ss : Nat → ByteArray) : Prop := ∀ i, i + 1 < ns → Op.bytesLess (ss i).toList (ss (i + 1)).toList = true

set_option maxRecDepth 100000 in
set_option maxHeartbeats 400000 in
/-- b1SortedDistinct -/
theorem sortedDistinct (b off ns cap : Nat) (ss : Nat → ByteArray) (w : World) (h : IsSites w b off ns ss) (hns : ns ≤ 4096) :
    Calls Try.prog 20 #[.slice (some ⟨b, off, none⟩) ns cap] w fun e w' => AskedN (Sorted ns ss) w e w' := by
  have HC := hide h.2
  clear h
  go_enter Try.func20, Try.ntmps20
  go_wp2_with fail
  go_loopw [3] (fun i wr => ∃ (k n : Nat), k ≤ 4097 ∧ i = .int .i64 ((k : Int) + 1) ∧ Hid (∀ i, i < k → i + 1 < ns → Op.bytesLess (ss i).toList (ss (i + 1)).toList = true) ∧ wr = w.drewN n) (fun i _ => ns - (intOf i).toNat)
  case atStart => exact ⟨0, 0, by omega, rfl, fun i hi => absurd hi (by omega), rfl⟩
  case round =>
    obtain ⟨k, n, hk, rfl, HS, rfl⟩ := hrel
    by_cases hlt : k + 1 < ns
    · have r0 := HC.out k (by omega)
      have r1 : w.cell? ⟨b, off + (k + 1), none⟩ = some (.string (ss (k + 1))) := HC.out (k + 1) hlt
      have HS2 : Op.bytesLess (ss k).toList (ss (k + 1)).toList = true → Hid (∀ i, i < k + 1 → i + 1 < ns → Op.bytesLess (ss i).toList (ss (i + 1)).toList = true) := fun h i hi h2 => by
        by_cases e : i = k
        · subst e; exact h
        · exact HS.out i (by omega) h2
      have j0 : (0 : Int) ≤ (k : Int) := by omega
      have j1 : (k : Int) < (ns : Int) := by omega
      have j2 : (k : Int) + 1 < (ns : Int) := by omega
      generalize ss k = x at *
      generalize ss (k + 1) = y at *
      clear HS
      by_cases hxy : Op.bytesLess x.toList y.toList = true
      · have HS3 := HS2 hxy
        clear HS2
        go_wp2_with fail
        go_quiet (fail)
        go_wp2_with fail
        go_roundw
        case rel => exact ⟨k + 1, _, by omega, by go_num, HS3, rfl⟩
        case measure => simp [intOf]; omega
      · have hxy' : Op.bytesLess x.toList y.toList = false := by simpa using hxy
        clear HS2 hxy
        go_wp2_with fail
        go_quiet (fail)
        go_wp2_with fail
        go_ret
        exact ⟨false, rfl, fun h => (by cases h), _, World.drewN_drewN _ _ _⟩
    · go_wp2_with fail
      go_ret
      exact ⟨true, rfl, fun _ i hi => HS.out i (by omega) hi, n, rfl⟩

theorem Try.info9 : (Try.prog.info? 9).map (fun i => (i.zero, i.size, i.bytes)) = some (some (.string ⟨#[]⟩), 1, 16) := by kernel_rfl
theorem nil49 (w : World) (a : Option Addr) (n c n' c' : Nat) : (binOp .eql 49 (.slice a n c) (.slice none n' c')).run Try.prog w = .ok (.bool a.isNone) w := Lib.run_eql_slice_nil w 49 9 a n c n' c' Try.underlying49
theorem nil31 (w : World) (a : Option Addr) (n c n' c' : Nat) : (binOp .eql 31 (.slice a n c) (.slice none n' c')).run Try.prog w = .ok (.bool a.isNone) w := Lib.run_eql_slice_nil w 31 5 a n c n' c' Try.underlying31

theorem set_below {w wr : World} {N : Nat} (h : w.grownBy wr none) (hN : w.heap.size ≤ N) (j : Nat) (v : Value) : w.grownBy (wr.setCell ⟨N, j, none⟩ v) none :=
  ⟨h.os, h.tape, h.output, by simpa using h.size, fun k hk hr => by rw [Below.heap_setCell _ _ _ _ (by show k ≠ N; omega)]; exact h.block k hk hr⟩
theorem there_set {wr : World} {N n : Nat} (h : wr.there N 0 n) (j : Nat) (v : Value) : (wr.setCell ⟨N, j, none⟩ v).there N 0 n := fun i hi => by
  obtain ⟨h1, h2⟩ := h i hi
  refine ⟨?_, by simpa using h2⟩
  obtain ⟨u, hu⟩ := Option.isSome_iff_exists.1 h1
  by_cases e : j = 0 + i
  · subst e; rw [World.cell?_setCell_same _ _ _ hu]; rfl
  · rw [cell_far _ _ _ _ _ e, hu]; rfl
theorem cell_is {wr : World} {N n : Nat} (h : wr.there N 0 n) (j : Nat) (hj : j < n) : ∃ v, wr.cell? ⟨N, j, none⟩ = some v := by
  have := (h j hj).1
  rw [Nat.zero_add] at this
  exact Option.isSome_iff_exists.1 this

/-- k of the len strings have been copied into the new block N. -/
structure SRel (w wr : World) (N len k : Nat) (ss : Nat → ByteArray) : Prop where
  grown : w.grownBy wr none
  size : N < wr.heap.size
  there : wr.there N 0 len
  cells : ∀ i, i < k → wr.cell? ⟨N, i, none⟩ = some (.string (ss i))
theorem SRel.step {w wr : World} {N len k : Nat} {ss : Nat → ByteArray} (h : SRel w wr N len k ss) (hN : w.heap.size ≤ N) (hk : k < len) :
    SRel w (wr.setCell ⟨N, k, none⟩ (.string (ss k))) N len (k + 1) ss := by
  refine ⟨set_below h.grown hN _ _, by simpa using h.size, there_set h.there _ _, ?_⟩
  intro i hi
  obtain ⟨v0, g0⟩ := cell_is h.there k hk
  by_cases e : i = k
  · subst e
    exact World.cell?_setCell_same _ _ _ g0
  · rw [cell_far _ _ _ _ _ (by omega)]
    exact h.cells i (by omega)

set_option maxRecDepth 100000 in
set_option maxHeartbeats 400000 in
/-- b1CloneStrings -/
theorem cloneS (b off len cap : Nat) (ss : Nat → ByteArray) (w : World) (h : IsSites w b off len ss) (hl : len ≤ 4096) :
    Calls Try.prog 23 #[.slice (some ⟨b, off, none⟩) len cap] w fun e w' => e = .returned (.slice (some ⟨w.heap.size, 0, none⟩) len len) ∧ w.grownBy w' none ∧ w.heap.size < w'.heap.size ∧
      (∀ i, i < len → w'.cell? ⟨w.heap.size, i, none⟩ = some (.string (ss i))) := by
  obtain ⟨i0, hi, hz0, hz1, hz2⟩ := info_parts Try.info9
  have q := nil49
  have hb := h.1
  have HC := hide h.2
  clear h
  go_enter Try.func23, Try.ntmps23
  go_wp2_with (at_make; refine wpList_make_full _ rfl _ _ 49 rfl w.heap.size 9 i0 (.string ⟨#[]⟩) 1 Try.underlying49 hi hz0 hz1 _ _ _ _ len rfl rfl rfl rfl (by rw [hz2]; omega) (by unfold maxLen; omega) (Nat.le_refl _) ?_; intro w1 hown hgrow)
  clear q hi hz0 hz1 hz2 i0
  have C0 : SRel w w1 w.heap.size len 0 ss := by
    refine ⟨hgrow, (hown.lt _ rfl).2, fun j hj => ?_, fun i hi => absurd hi (by omega)⟩
    rw [Nat.zero_add]
    exact ⟨by rw [hown.cellAt j (by omega), List.getElem?_eq_getElem (by rw [hown.1]; omega)]; rfl, hown.frozenAt j⟩
  clear hown hgrow
  go_loopw [4] (fun i wr => ∃ k : Nat, k ≤ len ∧ i = .int .i64 k ∧ SRel w wr w.heap.size len k ss) (fun i _ => len - (intOf i).toNat)
  case atStart => exact ⟨0, Nat.zero_le _, rfl, C0⟩
  case round =>
    clear C0
    obtain ⟨k, hk, rfl, C⟩ := hrel
    by_cases hlt : k < len
    · have hbl : wr.heap[b]? = w.heap[b]? := C.grown.block b hb (by simp)
      have r0 : wr.cell? ⟨b, off + k, none⟩ = some (.string (ss k)) := by rw [World.cell?_of_block (a := ⟨b, off + k, none⟩) hbl]; exact HC.out k hlt
      obtain ⟨v0, g0⟩ := cell_is C.there k hlt
      have z0 : wr.frozen? ⟨w.heap.size, k, none⟩ = false := by have := (C.there k hlt).2; rwa [Nat.zero_add] at this
      clear hbl
      have C' := C.step (Nat.le_refl _) hlt
      clear C
      go_wp2
      go_roundw
      case rel => exact ⟨k + 1, by omega, by go_num, C'⟩
      case measure => simp [intOf]; omega
    · go_wp2
      go_ret
      obtain rfl : k = len := by omega
      exact ⟨rfl, C.grown, C.size, C.cells⟩

/-- A []byte that came in. -/
def IsBytes (w : World) (a : Option Addr) (len : Nat) : Prop :=
  len ≤ 9223372036854775807 ∧ (0 < len → ∃ b off, a = some ⟨b, off, none⟩ ∧ b < w.heap.size ∧ ∀ i, i < len → ∃ x, w.cell? ⟨b, off + i, none⟩ = some (.int .u8 x))

/-- Some slice comes back, in memory of its own. -/
def SomeSlice (w : World) (e : Ending) (w' : World) : Prop := ∃ a n c, e = .returned (.slice a n c) ∧ w.grownBy w' none

theorem Try.info5 : (Try.prog.info? 5).map (fun i => (i.zero, i.size, i.bytes)) = some (some (.int .u8 0), 1, 1) := by kernel_rfl

set_option maxRecDepth 100000 in
set_option maxHeartbeats 400000 in
/-- b1CloneBytes -/
theorem cloneB (a : Option Addr) (len cap : Nat) (w : World) (h : IsBytes w a len) (hl : len ≤ 1048576) :
    Calls Try.prog 33 #[.slice a len cap] w fun e w' => SomeSlice w e w' := by
  obtain ⟨i0, hi, hz0, hz1, hz2⟩ := info_parts Try.info5
  have q := nil31
  have HC := hide h.2
  clear h
  cases a with
  | none =>
    go_enter Try.func33, Try.ntmps33
    go_wp2
    go_ret
    exact ⟨none, 0, 0, rfl, ⟨rfl, rfl, rfl, Nat.le_refl _, fun _ _ _ => rfl⟩⟩
  | some x =>
    go_enter Try.func33, Try.ntmps33
    go_wp2_with (at_make; refine wpList_make_full _ rfl _ _ 31 rfl w.heap.size 5 i0 (.int .u8 0) 1 Try.underlying31 hi hz0 hz1 _ _ _ _ len rfl rfl rfl rfl (by rw [hz2]; omega) (by unfold maxLen; omega) (Nat.le_refl _) ?_; intro w1 hown hgrow)
    clear q hi hz0 hz1 hz2 i0
    have T0 : w1.there w.heap.size 0 len := fun j hj => by
      rw [Nat.zero_add]
      exact ⟨by rw [hown.cellAt j (by omega), List.getElem?_eq_getElem (by rw [hown.1]; omega)]; rfl, hown.frozenAt j⟩
    clear hown
    go_loopw [4] (fun i wr => ∃ k : Nat, k ≤ len ∧ i = .int .i64 k ∧ Hid (wr.there w.heap.size 0 len) ∧ w.grownBy wr none) (fun i _ => len - (intOf i).toNat)
    case atStart => exact ⟨0, Nat.zero_le _, rfl, T0, hgrow⟩
    case round =>
      clear T0 hgrow
      obtain ⟨k, hk, rfl, T1, G1⟩ := hrel
      by_cases hlt : k < len
      · obtain ⟨b, off, hx, hb, hc⟩ := HC.out (by omega)
        injection hx with hx
        subst hx
        obtain ⟨y, r0⟩ := hc k hlt
        have r1 : wr.cell? ⟨b, off + k, none⟩ = some (.int .u8 y) := by rw [World.cell?_of_block (a := ⟨b, off + k, none⟩) (G1.block b hb (by simp))]; exact r0
        obtain ⟨v0, g0⟩ := cell_is T1.out k hlt
        have z0 : wr.frozen? ⟨w.heap.size, k, none⟩ = false := by have := (T1.out k hlt).2; rwa [Nat.zero_add] at this
        have T2 := hide (there_set T1.out k (.int .u8 y))
        have G2 := set_below G1 (Nat.le_refl _) k (.int .u8 y)
        clear T1 G1 hc HC r0
        go_wp2
        go_roundw
        case rel => exact ⟨k + 1, by omega, by go_num, T2, G2⟩
        case measure => simp [intOf]; omega
      · go_wp2
        go_ret
        exact ⟨_, _, _, rfl, G1⟩
end Go.Proofs.Qxb6605773a
