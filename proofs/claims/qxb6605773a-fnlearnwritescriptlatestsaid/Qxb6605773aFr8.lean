/- The reading of a []string and of a []WriteArg. -/
import Derived.Test.Qxb6605773aRows
import Derived.Test.Qxb6605773aReads
import Derived.Test.Qxb6605773aLast
import Derived.Test.Qxb6605773aReadOps
import Derived.Test.Qxb6605773aFr1
import Derived.Test.Qxb6605773aFr2
import Derived.Test.Qxb6605773aFr5
import Derived.ChangeSame
import Derived.DataReads
import Derived.SliceStrings
namespace Go.Proofs.Qxb6605773a
open Go.ChangeShapes Go.WideShapes Go.ChangeAt Go.RowKit Go.Deep

theorem Try.cells9 : Try.prog.cellsOf 9 = 1 := by kernel_rfl
theorem Try.cells22 : Try.prog.cellsOf 22 = 1 := by kernel_rfl
theorem Try.cells31 : Try.prog.cellsOf 31 = 1 := by kernel_rfl
theorem Try.cells5 : Try.prog.cellsOf 5 = 1 := by kernel_rfl
theorem Try.cells52 : Try.prog.cellsOf 52 = 8 := by kernel_rfl

theorem isStrs {H : Type} {enc : TypeId × Value → H} {w : World} {fuel : Nat} {a : Option Addr} {len cap : Nat} {y : DataW H × List MemPlace}
    (h : DataW.trod enc Try.prog w 0 (fun _ => true) true fuel 49 [.slice a len cap] = some y) : ∃ ss, IsStrs w a len ss := by
  rcases open_strings Try.underlying49 Try.underlying9 Try.cells9 h with ⟨hcs, _⟩ | ⟨x, l, c, ss, hcs, _, hl, hm, hz, _, hcell, hws⟩
  · simp at hcs
    obtain ⟨rfl, rfl, rfl⟩ := hcs
    exact ⟨fun _ => ByteArray.empty, by omega, fun i hi => absurd hi (by omega), fun h => absurd h (by omega)⟩
  · simp at hcs
    obtain ⟨rfl, rfl, rfl⟩ := hcs
    simp only [if_true] at hz
    have hmx : len ≤ 9223372036854775807 := by unfold maxLen at hm; omega
    refine ⟨fun i => ss.getD i ByteArray.empty, hmx, fun i _ => ?_, fun h0 => ?_⟩
    · by_cases e : i < ss.length
      · have := hws ss[i] (List.getElem_mem e)
        unfold maxLen at this
        simpa [List.getD, e] using this
      · simp [List.getD, e]
    · have h00 := hcell 0 (by omega)
      obtain ⟨b, off, spot⟩ := x
      have hspot : spot = none := by simpa [Addr.add] using World.cell?_spot h00
      subst hspot
      refine ⟨b, off, rfl, ?_, fun i hi => ?_⟩
      · have := World.block_lt_of_cell? w _ h00
        simpa [Addr.add] using this
      · have := hcell i (by omega)
        rw [add_plain] at this
        exact this

theorem isBytes {H : Type} {enc : TypeId × Value → H} {w : World} {fuel : Nat} {a : Option Addr} {len cap : Nat} {y : DataW H × List MemPlace}
    (h : DataW.trod enc Try.prog w 0 (fun _ => true) true fuel 31 [.slice a len cap] = some y) : IsBytes w a len := by
  rcases open_ints Try.underlying31 Try.underlying5 Try.cells5 h with ⟨hcs, _⟩ | ⟨x, l, c, zs, hcs, _, hl, hm, hz, _, hcell, _⟩
  · simp at hcs
    obtain ⟨rfl, rfl, rfl⟩ := hcs
    exact ⟨by omega, fun h => absurd h (by omega)⟩
  · simp at hcs
    obtain ⟨rfl, rfl, rfl⟩ := hcs
    simp only [if_true] at hz
    refine ⟨by unfold maxLen at hm; omega, fun h0 => ?_⟩
    have h00 := hcell 0 (by omega)
    obtain ⟨b, off, spot⟩ := x
    have hspot : spot = none := by simpa [Addr.add] using World.cell?_spot h00
    subst hspot
    refine ⟨b, off, rfl, ?_, fun i hi => ?_⟩
    · have := World.block_lt_of_cell? w _ h00
      simpa [Addr.add] using this
    · have := hcell i (by omega)
      rw [add_plain] at this
      exact ⟨_, this⟩

theorem shape {H : Type} {enc : TypeId × Value → H} {w : World} {fuel : Nat} {t e : TypeId} {cs : List Value} {y : DataW H × List MemPlace} (ht : Try.prog.underlying t = some (.slice e))
    (h : DataW.trod enc Try.prog w 0 (fun _ => true) true fuel t cs = some y) : ∃ a len cap, cs = [.slice a len cap] := by
  rcases open_slice ht h with ⟨hcs, _⟩ | ⟨x, l, c, m, n, D, Pl, hcs, _⟩
  · exact ⟨_, _, _, hcs⟩
  · exact ⟨_, _, _, hcs⟩

theorem eight_of_len {α : Type} (l : List α) (h : l.length = 8) : ∃ a b c d e f g i, l = [a, b, c, d, e, f, g, i] := by
  match l, h with
  | [a, b, c, d, e, f, g, i], _ => exact ⟨a, b, c, d, e, f, g, i, rfl⟩

theorem waRead {H : Type} {enc : TypeId × Value → H} {w : World} {fuel : Nat} {cs : List Value} {y : DataW H × List MemPlace}
    (h : DataW.trod enc Try.prog w 0 (fun _ => true) true fuel 52 cs = some y) :
    ∃ q : WA, q.Ok w ∧ cs = [.string q.key, .int .i64 q.op, .slice q.va q.vl q.vc, .int .i64 q.delta, .int .i64 q.t, .string q.site, .int .i64 q.prev, .slice q.pa q.pl q.pc] := by
  obtain ⟨xs, n, _, _, hl, hlen, hf⟩ := DataW.trod_struct Try.underlying52 h
  rw [Try.cells52] at hl
  obtain ⟨c0, c1, c2, c3, c4, c5, c6, c7, rfl⟩ := eight_of_len cs hl
  obtain ⟨x0, x1, x2, x3, x4, x5, x6, x7, rfl⟩ := eight_of_len xs hlen
  have g0 : DataW.trod enc Try.prog w 0 (fun _ => true) true n 9 (([c0, c1, c2, c3, c4, c5, c6, c7].drop 0).take (Try.prog.cellsOf 9)) = some x0 := hf 0 _ rfl
  rw [Try.cells9] at g0
  change DataW.trod enc Try.prog w 0 (fun _ => true) true n 9 [c0] = some x0 at g0
  have g1 : DataW.trod enc Try.prog w 0 (fun _ => true) true n 3 (([c0, c1, c2, c3, c4, c5, c6, c7].drop 1).take (Try.prog.cellsOf 3)) = some x1 := hf 1 _ rfl
  rw [Try.cells3] at g1
  change DataW.trod enc Try.prog w 0 (fun _ => true) true n 3 [c1] = some x1 at g1
  have g2 : DataW.trod enc Try.prog w 0 (fun _ => true) true n 31 (([c0, c1, c2, c3, c4, c5, c6, c7].drop 2).take (Try.prog.cellsOf 31)) = some x2 := hf 2 _ rfl
  rw [Try.cells31] at g2
  change DataW.trod enc Try.prog w 0 (fun _ => true) true n 31 [c2] = some x2 at g2
  have g3 : DataW.trod enc Try.prog w 0 (fun _ => true) true n 2 (([c0, c1, c2, c3, c4, c5, c6, c7].drop 3).take (Try.prog.cellsOf 2)) = some x3 := hf 3 _ rfl
  rw [Try.cells2] at g3
  change DataW.trod enc Try.prog w 0 (fun _ => true) true n 2 [c3] = some x3 at g3
  have g4 : DataW.trod enc Try.prog w 0 (fun _ => true) true n 2 (([c0, c1, c2, c3, c4, c5, c6, c7].drop 4).take (Try.prog.cellsOf 2)) = some x4 := hf 4 _ rfl
  rw [Try.cells2] at g4
  change DataW.trod enc Try.prog w 0 (fun _ => true) true n 2 [c4] = some x4 at g4
  have g5 : DataW.trod enc Try.prog w 0 (fun _ => true) true n 9 (([c0, c1, c2, c3, c4, c5, c6, c7].drop 5).take (Try.prog.cellsOf 9)) = some x5 := hf 5 _ rfl
  rw [Try.cells9] at g5
  change DataW.trod enc Try.prog w 0 (fun _ => true) true n 9 [c5] = some x5 at g5
  have g6 : DataW.trod enc Try.prog w 0 (fun _ => true) true n 2 (([c0, c1, c2, c3, c4, c5, c6, c7].drop 6).take (Try.prog.cellsOf 2)) = some x6 := hf 6 _ rfl
  rw [Try.cells2] at g6
  change DataW.trod enc Try.prog w 0 (fun _ => true) true n 2 [c6] = some x6 at g6
  have g7 : DataW.trod enc Try.prog w 0 (fun _ => true) true n 22 (([c0, c1, c2, c3, c4, c5, c6, c7].drop 7).take (Try.prog.cellsOf 22)) = some x7 := hf 7 _ rfl
  rw [Try.cells22] at g7
  change DataW.trod enc Try.prog w 0 (fun _ => true) true n 22 [c7] = some x7 at g7
  obtain ⟨key, e0, _, hk⟩ := DataW.trod_string Try.underlying9 g0
  obtain ⟨op, e1, _, _⟩ := DataW.trod_int Try.underlying3 g1
  obtain ⟨va, vl, vc, e2⟩ := shape Try.underlying31 g2
  obtain ⟨delta, e3, _, _⟩ := DataW.trod_int Try.underlying2 g3
  obtain ⟨t, e4, _, _⟩ := DataW.trod_int Try.underlying2 g4
  obtain ⟨site, e5, _, hs⟩ := DataW.trod_string Try.underlying9 g5
  obtain ⟨prev, e6, _, _⟩ := DataW.trod_int Try.underlying2 g6
  obtain ⟨pa, pl, pc, e7⟩ := shape Try.underlying22 g7
  simp only [List.cons.injEq, and_true] at e0 e1 e2 e3 e4 e5 e6 e7
  subst e0 e1 e2 e3 e4 e5 e6 e7
  have hb := isBytes g2
  obtain ⟨pz, hp⟩ := isInts g7
  unfold maxLen at hk hs
  exact ⟨⟨key, op, va, vl, vc, delta, t, site, prev, pa, pl, pc, pz⟩, ⟨by simpa using hk, by simpa using hs, hb, hp⟩, rfl⟩

instance : Inhabited WA := ⟨⟨ByteArray.empty, 0, none, 0, 0, 0, 0, ByteArray.empty, 0, none, 0, 0, []⟩⟩

theorem isWs {H : Type} {enc : TypeId × Value → H} {w : World} {fuel : Nat} {a : Option Addr} {len cap : Nat} {y : DataW H × List MemPlace}
    (h : DataW.trod enc Try.prog w 0 (fun _ => true) true fuel 74 [.slice a len cap] = some y) : ∃ qs, IsWs w a len qs := by
  rcases open_slice Try.underlying74 h with ⟨hcs, _⟩ | ⟨x, l, c, m, n, D, Pl, hcs, _, hl, hm, hmm, _, hx⟩
  · simp at hcs
    obtain ⟨rfl, rfl, rfl⟩ := hcs
    exact ⟨fun _ => default, by omega, fun i hi => absurd hi (by omega), fun h => absurd h (by omega)⟩
  · simp at hcs
    obtain ⟨rfl, rfl, rfl⟩ := hcs
    simp only [if_true] at hmm
    subst hmm
    rw [Try.cells52] at hx
    obtain ⟨z, hz⟩ := choose_lt (α := WA) (n := len) (p := fun i q => q.Ok w ∧ ∀ f v, [.string q.key, .int .i64 q.op, .slice q.va q.vl q.vc, .int .i64 q.delta, .int .i64 q.t, .string q.site, .int .i64 q.prev, .slice q.pa q.pl q.pc][f]? = some v → w.cell? (x.add (i * 8 + f)) = some v) (fun i hi => by
      obtain ⟨cs', h1, h2⟩ := hx i (by omega)
      obtain ⟨q, ok, rfl⟩ := waRead h2
      obtain ⟨_, _, hcell⟩ := World.cells?_some h1
      refine ⟨q, ok, fun f v hv => ?_⟩
      have hf : f < 8 := by
        have := (List.getElem?_eq_some_iff.1 hv).1
        simpa using this
      have := hcell f (by omega)
      rw [add_add] at this
      rw [this]
      exact hv)
    refine ⟨z, by unfold maxLen at hm; omega, fun i hi => (hz i hi).1, fun h0 => ?_⟩
    have h00 := (hz 0 h0).2 0 _ rfl
    obtain ⟨b, off, spot⟩ := x
    have hspot : spot = none := by simpa [Addr.add] using World.cell?_spot h00
    subst hspot
    refine ⟨b, off, rfl, ?_, fun i hi => ?_⟩
    · have := World.block_lt_of_cell? w _ h00
      simpa [Addr.add] using this
    · have g : ∀ f v, [Value.string (z i).key, .int .i64 (z i).op, .slice (z i).va (z i).vl (z i).vc, .int .i64 (z i).delta, .int .i64 (z i).t, .string (z i).site, .int .i64 (z i).prev, .slice (z i).pa (z i).pl (z i).pc][f]? = some v → w.cell? ⟨b, off + i * 8 + f, none⟩ = some v := fun f v hv => by
        have := (hz i hi).2 f v hv
        rw [add_plain] at this
        rw [Nat.add_assoc]
        exact this
      exact ⟨g 0 _ rfl, g 1 _ rfl, g 2 _ rfl, g 3 _ rfl, g 4 _ rfl, g 5 _ rfl, g 6 _ rfl, g 7 _ rfl⟩
end Go.Proofs.Qxb6605773a
