/- b1ToWrite. -/
import Derived.Test.Qxb6605773aRows
import Derived.Test.Qxb6605773aBase
import Derived.Test.Qxb6605773aCloneInts
import Derived.Test.Qxb6605773aFr1
import Derived.Test.Qxb6605773aFr2
import Derived.WalkKit
import Derived.WalkSpells
import Derived.WalkLawsBesides
import Derived.Deep.RegionHeld3
namespace Go.Proofs.Qxb6605773a
open Go.RowKit

theorem IsBytes.grown {w w' : World} {a : Option Addr} {len : Nat} (h : IsBytes w a len) (g : w.grownBy w' none) : IsBytes w' a len := by
  refine ⟨h.1, fun h0 => ?_⟩
  obtain ⟨b, off, e, hb, hc⟩ := h.2 h0
  refine ⟨b, off, e, Nat.lt_of_lt_of_le hb g.size, fun i hi => ?_⟩
  rw [World.cell?_of_block (a := ⟨b, off + i, none⟩) (g.block b hb (by simp))]
  exact hc i hi

theorem IsInts.grown {w w' : World} {a : Option Addr} {len cap : Nat} {zs : List Int} (h : IsInts w a len cap zs) (g : w.grownBy w' none) : IsInts w' a len cap zs := by
  obtain ⟨h1, h2⟩ := h
  refine ⟨h1, ?_⟩
  rcases h2 with h2 | ⟨x, hx, hl, hc⟩
  · exact Or.inl h2
  · refine Or.inr ⟨x, hx, hl, fun h0 => ?_⟩
    obtain ⟨e, hb, hc⟩ := hc h0
    refine ⟨e, Nat.lt_of_lt_of_le hb g.size, fun i hi => ?_⟩
    have := hc i hi
    rw [World.cell?_of_block (a := ⟨x.block, x.off + i, none⟩) (g.block _ hb (by simp))]
    exact this

/-- The cell that lies there. -/
def theCell (w : World) (b i : Nat) : Value := (w.cell? ⟨b, i, none⟩).getD (.bool false)

/-- A cell that is there and can be written. -/
abbrev Open1 (w : World) (b i : Nat) : Prop := w.cell? ⟨b, i, none⟩ = some (theCell w b i) ∧ w.frozen? ⟨b, i, none⟩ = false

theorem Open1.of {w : World} {b i : Nat} {v : Value} (h : w.cell? ⟨b, i, none⟩ = some v) (h2 : w.frozen? ⟨b, i, none⟩ = false) : Open1 w b i := ⟨by rw [theCell, h]; rfl, h2⟩
theorem Open1.set {w : World} {b i : Nat} (h : Open1 w b i) (a : Addr) (v : Value) : Open1 (w.setCell a v) b i := by
  by_cases e : a = ⟨b, i, none⟩
  · subst e; exact Open1.of (World.cell?_setCell_same _ _ _ h.1) (by simpa using h.2)
  · exact Open1.of ((World.cell?_setCell_other _ _ _ _ e).trans h.1) (by simpa using h.2)
theorem Open1.grown {w w' : World} {b i : Nat} (h : Open1 w b i) (g : w.grownBy w' none) : Open1 w' b i := by
  have hb : b < w.heap.size := by
    have := h.1
    unfold World.cell? at this
    cases e : w.heap[b]? with
    | none => simp [e] at this
    | some o => exact heap_lt e
  have hh := g.block b hb (by simp)
  exact Open1.of ((World.cell?_of_block (a := ⟨b, i, none⟩) hh).trans h.1) (by rw [← h.2]; simp [World.frozen?, hh])

/-- What stands in b1ToWrite's region: the parameter's box, and the result's cell. -/
abbrev TS (q : WA) (w w' : World) : Prop :=
  (w'.cell? ⟨w.heap.size, 0, none⟩ = some (.string q.key) ∧ w'.cell? ⟨w.heap.size, 1, none⟩ = some (.int .i64 q.op) ∧ w'.cell? ⟨w.heap.size, 2, none⟩ = some (.slice q.va q.vl q.vc) ∧ w'.cell? ⟨w.heap.size, 3, none⟩ = some (.int .i64 q.delta) ∧
  w'.cell? ⟨w.heap.size, 4, none⟩ = some (.int .i64 q.t) ∧ w'.cell? ⟨w.heap.size, 5, none⟩ = some (.string q.site) ∧ w'.cell? ⟨w.heap.size, 6, none⟩ = some (.int .i64 q.prev) ∧ w'.cell? ⟨w.heap.size, 7, none⟩ = some (.slice q.pa q.pl q.pc)) ∧
  (Open1 w' (w.heap.size + 1) 0 ∧ Open1 w' (w.heap.size + 1) 1 ∧ Open1 w' (w.heap.size + 1) 2 ∧ Open1 w' (w.heap.size + 1) 3 ∧ Open1 w' (w.heap.size + 1) 4 ∧ Open1 w' (w.heap.size + 1) 5 ∧ Open1 w' (w.heap.size + 1) 6 ∧ Open1 w' (w.heap.size + 1) 7) ∧
  w.grownBy w' none

theorem TS.keep {q : WA} {w u w' : World} (g : u.grownBy w' none) (h : TS q w u) : TS q w w' := by
  obtain ⟨⟨h0, h1, h2, h3, h4, h5, h6, h7⟩, ⟨o0, o1, o2, o3, o4, o5, o6, o7⟩, h8⟩ := h
  have c : ∀ {a v}, u.cell? a = some v → w'.cell? a = some v := fun h => g.cell h (by simp)
  exact ⟨⟨c h0, c h1, c h2, c h3, c h4, c h5, c h6, c h7⟩, ⟨o0.grown g, o1.grown g, o2.grown g, o3.grown g, o4.grown g, o5.grown g, o6.grown g, o7.grown g⟩, grown_trans h8 g⟩
theorem TS.set {q : WA} {w u : World} (i : Nat) (v : Value) (h : TS q w u) : TS q w (u.setCell ⟨w.heap.size + 1, i, none⟩ v) := by
  obtain ⟨⟨h0, h1, h2, h3, h4, h5, h6, h7⟩, ⟨o0, o1, o2, o3, o4, o5, o6, o7⟩, h8⟩ := h
  have c : ∀ {j v'}, u.cell? ⟨w.heap.size, j, none⟩ = some v' → (u.setCell ⟨w.heap.size + 1, i, none⟩ v).cell? ⟨w.heap.size, j, none⟩ = some v' := fun h => by
    rw [World.cell?_setCell_other _ _ _ _ (by simp)]; exact h
  exact ⟨⟨c h0, c h1, c h2, c h3, c h4, c h5, c h6, c h7⟩, ⟨o0.set _ _, o1.set _ _, o2.set _ _, o3.set _ _, o4.set _ _, o5.set _ _, o6.set _ _, o7.set _ _⟩, set_below h8 (by omega) _ _⟩

theorem TS.lt {q : WA} {w u : World} (h : TS q w u) : w.heap.size + 1 < u.heap.size := by
  have := h.2.1.1.1
  unfold World.cell? at this
  cases e : u.heap[w.heap.size + 1]? with
  | none => simp [e] at this
  | some o => exact heap_lt e
theorem set_row (w : World) (R i : Nat) (v : Value) : w.grownBy (w.setCell ⟨R, i, none⟩ v) (some R) :=
  ⟨rfl, rfl, rfl, by simp, fun k _ hr => Below.heap_setCell _ _ _ _ (fun e => hr (by rw [e]))⟩
theorem own_off {w : World} {B R : Nat} {e : TypeId} {v : Value} {n : Nat} {xs : List Value} (h : w.ownsRow B e 1 v n xs) (hR : R < B) : v.ownBlock = none ∨ v.ownBlock ≠ some R := by
  rcases h.2 with ⟨rfl, _⟩ | ⟨g, cap, cur, rfl, h1, _⟩
  · left; rfl
  · right
    simp only [Value.ownBlock, ne_eq, Option.some.injEq]
    omega
theorem grown_two (w : World) (o o' : Obj) : w.grownBy ((w.alloc o).alloc o').drew none :=
  have h := grown_trans (World.grownBy_alloc w o none) (World.grownBy_alloc (w.alloc o) o' none)
  ⟨h.os, h.tape, h.output, h.size, h.block⟩

/-- What b1ToWrite leaves. -/
def Made (q : WA) (w : World) (e : Ending) (w' : World) : Prop :=
  ∃ va vn vc pv, e = .returned (.agg #[.string q.key, .int .i64 q.op, .slice va vn vc, .int .i64 q.delta, .int .i64 q.t, .string q.site, .int .i64 q.prev, pv]) ∧ w.grownBy w' none ∧
    (∃ a n c, pv = .slice a n c) ∧ ∀ X, X < w.heap.size → Rd w' X pv q.pa.isNone q.pz

theorem Rd.ofOwn {w : World} {B X : Nat} {a : Option Addr} {n c : Nat} {zs : List Int} (h : w.ownsRow B 2 1 (.slice a n c) zs.length (ints zs)) (hX : X < B) (hz : zs.length ≤ 9223372036854775807) : Rd w X (.slice a n c) a.isNone zs := by
  obtain ⟨a', c', e⟩ := own_form h
  injection e with e1 e2 e3
  subst e1 e2 e3
  refine ⟨a, c, rfl, rfl, hz, fun h0 => ?_⟩
  obtain ⟨g, cap, e, h1, h2⟩ := own_some h h0
  injection e with e1 e2 e3
  subst e1
  refine ⟨g, 0, rfl, h2, by omega, fun i hi => ?_⟩
  rw [Nat.zero_add, h.cellAt i (by omega)]
  exact ints_get zs i hi

set_option maxRecDepth 100000 in
set_option maxHeartbeats 1000000 in
theorem toWrite (q : WA) (w : World) (h : q.Ok w) (hv : q.vl ≤ 1048576) (hp : q.pl ≤ 131072) :
    Calls Try.prog 25 #[.agg #[.string q.key, .int .i64 q.op, .slice q.va q.vl q.vc, .int .i64 q.delta, .int .i64 q.t, .string q.site, .int .i64 q.prev, .slice q.pa q.pl q.pc]] w fun e w' => Made q w e w' := by
  have hB := hide h.value
  have hpz : q.pz.length ≤ 9223372036854775807 := by have := h.past.1; omega
  have hP := hide h.past
  clear h
  go_enter Try.func25, Try.ntmps25
  go_wp2_with fail
  go_region_held3 (fun w' => TS q w w')
    (first
      | (with_reducible refine TS.set (q := q) (w := w) _ _ ?_
         repeat (with_reducible refine TS.set (q := q) (w := w) _ _ ?_)
         with_reducible assumption)
      | (with_reducible exact TS.keep (q := q) (w := w) g (by assumption))
      | ((repeat' apply And.intro) <;> simp [theCell, World.cell?_alloc_some, grown_two]; done))
    (first
      | (go_at_call 33; refine (cloneB q.va q.vl q.vc _ ?_ hv).mono ?_; (exact hB.out.grown (And.right (And.right (by assumption)))); rintro e w' ⟨a, n, c, rfl, g⟩)
      | (go_at_call 10; have hU := hide (TS.lt (show TS q w _ by assumption)); refine (cloneI q.pa q.pl q.pc q.pz _ ?_ (by omega)).mono ?_; (exact hP.out.grown (And.right (And.right (by assumption)))); rintro e w' ⟨pv, rfl, ho, g, a', n', c', rfl, hnil⟩; have HT := hide (TS.keep (q := q) (w := w) g (by assumption))))
  have G : Hid (w.grownBy _ none) := And.right (And.right (show TS q w _ by assumption))
  obtain ⟨_, ⟨o0, o1, o2, o3, o4, o5, o6, o7⟩, _⟩ := HT.out
  go_wp2_with fail
  refine bodyPost_ret (v := .agg #[.string q.key, .int .i64 q.op, .slice a n c, .int .i64 q.delta, .int .i64 q.t, .string q.site, .int .i64 q.prev, .slice a' n' c']) ?_ rfl ?_
  · simp [results, go_sem, o0, o1, o2, o3, o4, o5, o6, o7]
  · refine ⟨a, n, c, _, rfl, G.out, ⟨_, _, _, rfl⟩, fun X hX => ?_⟩
    have hR := hU.out
    have s := set_row w' (w.heap.size + 1) 0 (.string q.key)
    have s := grown_trans s (set_row _ (w.heap.size + 1) 1 (.int .i64 q.op))
    have s := grown_trans s (set_row _ (w.heap.size + 1) 2 (.slice a n c))
    have s := grown_trans s (set_row _ (w.heap.size + 1) 3 (.int .i64 q.delta))
    have s := grown_trans s (set_row _ (w.heap.size + 1) 4 (.int .i64 q.t))
    have s := grown_trans s (set_row _ (w.heap.size + 1) 5 (.string q.site))
    have s := grown_trans s (set_row _ (w.heap.size + 1) 6 (.int .i64 q.prev))
    have s := grown_trans s (set_row _ (w.heap.size + 1) 7 (.slice a' n' c'))
    have ho2 := ho.kept s (own_off ho hR)
    have r := Rd.ofOwn (X := X) ho2 (by omega) hpz
    rw [hnil] at r
    exact r
end Go.Proofs.Qxb6605773a
