/- zzBytes_FnLearnWriteScriptLatest: some bool. -/
import Derived.Test.Qxb6605773aRows
import Derived.Test.Qxb6605773aBase
import Derived.Test.Qxb6605773aLast
import Derived.Test.Qxb6605773aFr1
import Derived.Test.Qxb6605773aFr2
import Derived.Test.Qxb6605773aFr3
import Derived.Test.Qxb6605773aFr4
import Derived.WalkKit
import Derived.WalkSpells
import Derived.WalkLawsBesides
namespace Go.Proofs.Qxb6605773a
open Go.RowKit

/-- A []string that came in. -/
structure IsStrs (w : World) (a : Option Addr) (ns : Nat) (ss : Nat → ByteArray) : Prop where
  len : ns ≤ 9223372036854775807
  sizes : ∀ i, i < ns → (ss i).size ≤ 9223372036854775807
  cells : 0 < ns → ∃ b off, a = some ⟨b, off, none⟩ ∧ IsSites w b off ns ss

/-- One WriteArg's eight cells. -/
structure WCells (w : World) (b o : Nat) (q : WA) : Prop where
  c0 : w.cell? ⟨b, o, none⟩ = some (.string q.key)
  c1 : w.cell? ⟨b, o + 1, none⟩ = some (.int .i64 q.op)
  c2 : w.cell? ⟨b, o + 2, none⟩ = some (.slice q.va q.vl q.vc)
  c3 : w.cell? ⟨b, o + 3, none⟩ = some (.int .i64 q.delta)
  c4 : w.cell? ⟨b, o + 4, none⟩ = some (.int .i64 q.t)
  c5 : w.cell? ⟨b, o + 5, none⟩ = some (.string q.site)
  c6 : w.cell? ⟨b, o + 6, none⟩ = some (.int .i64 q.prev)
  c7 : w.cell? ⟨b, o + 7, none⟩ = some (.slice q.pa q.pl q.pc)

/-- A []WriteArg that came in. -/
structure IsWs (w : World) (a : Option Addr) (nw : Nat) (qs : Nat → WA) : Prop where
  len : nw ≤ 9223372036854775807
  ok : ∀ i, i < nw → (qs i).Ok w
  cells : 0 < nw → ∃ b off, a = some ⟨b, off, none⟩ ∧ b < w.heap.size ∧ ∀ i, i < nw → WCells w b (off + i * 8) (qs i)

set_option maxRecDepth 100000 in
set_option maxHeartbeats 1000000 in
theorem bytes29 (a : Option Addr) (ns cap : Nat) (ss : Nat → ByteArray) (me : Int) (a2 : Option Addr) (nw cap2 : Nat) (qs : Nat → WA) (w : World) (h : IsStrs w a ns ss) (h2 : IsWs w a2 nw qs) :
    Calls Try.prog 29 #[.slice a ns cap, .int .i64 me, .slice a2 nw cap2] w fun e w' => AnyBool w e w' := by
  have n1 := h.len
  have n2 := h2.len
  have H := hide h
  have H2 := hide h2
  clear h h2
  by_cases l1 : 1048576 < ns
  · go_enter Try.func29, Try.ntmps29
    go_wp2
    go_ret
    exact ⟨false, rfl, rfl⟩
  go_enter Try.func29, Try.ntmps29
  go_wp2_with fail
  go_loopw [7, 8] (fun t i wr => ∃ k s : Nat, k ≤ ns ∧ s ≤ 1048576 ∧ t = .int .i64 s ∧ i = .int .i64 k ∧ w = wr) (fun _ i _ => ns - (intOf i).toNat)
  case atStart => exact ⟨0, ns, by omega, by omega, rfl, rfl, rfl⟩
  case round =>
    obtain ⟨k, s, hk, hs, rfl, rfl, rfl⟩ := hrel
    by_cases hlt : k < ns
    · obtain ⟨b, off, rfl, hc⟩ := H.out.cells (by omega)
      have r0 := hc.2 k hlt
      have hz := H.out.sizes k hlt
      clear hc H H2
      generalize ss k = x at *
      by_cases l2 : 1048576 < x.size
      · go_wp2_with fail
        go_ret
        exact ⟨false, rfl, rfl⟩
      by_cases l3 : 1048576 < s + x.size
      · go_wp2_with fail
        go_ret
        exact ⟨false, rfl, rfl⟩
      go_wp2_with fail
      go_roundw
      case rel => exact ⟨k + 1, s + x.size, by omega, by omega, by go_num, by go_num, by trivial⟩
      case measure => simp [intOf]; omega
    · clear H
      by_cases l2 : 1048576 < nw
      · go_wp2_with fail
        go_ret
        exact ⟨false, rfl, rfl⟩
      by_cases l3 : 1048576 < s + nw
      · go_wp2_with fail
        go_ret
        exact ⟨false, rfl, rfl⟩
      go_wp2_with fail
      go_loopw [7, 9] (fun t i wr => ∃ k s : Nat, k ≤ nw ∧ s ≤ 1048576 ∧ t = .int .i64 s ∧ i = .int .i64 k ∧ w = wr) (fun _ i _ => nw - (intOf i).toNat)
      case atStart => exact ⟨0, s + nw, by omega, by omega, by go_num, rfl, rfl⟩
      case round =>
        clear hlt l3 hs hk
        obtain ⟨k, s, hk, hs, rfl, rfl, rfl⟩ := hrel
        by_cases hlt : k < nw
        · obtain ⟨b, off, rfl, hb, hc⟩ := H2.out.cells (by omega)
          obtain ⟨r0, _, r2, _, _, r5, _, r7⟩ := hc k hlt
          obtain ⟨y0, y5, y2, y7⟩ := H2.out.ok k hlt
          replace y2 := y2.1
          replace y7 := y7.le
          clear hc H2
          generalize qs k = q at *
          obtain ⟨key, op, va, vl, vc, delta, t, site, prev, pa, pl, pc, pz⟩ := q
          simp only at r0 r2 r5 r7 y0 y5 y2 y7
          by_cases m0 : 1048576 < key.size
          · go_wp2_with fail
            go_ret
            exact ⟨false, rfl, rfl⟩
          by_cases m1 : 1048576 < s + key.size
          · go_wp2_with fail
            go_ret
            exact ⟨false, rfl, rfl⟩
          by_cases m2 : 1048576 < vl
          · go_wp2_with fail
            go_ret
            exact ⟨false, rfl, rfl⟩
          by_cases m3 : 1048576 < s + key.size + vl
          · go_wp2_with fail
            go_ret
            exact ⟨false, rfl, rfl⟩
          by_cases m4 : 1048576 < site.size
          · go_wp2_with fail
            go_ret
            exact ⟨false, rfl, rfl⟩
          by_cases m5 : 1048576 < s + key.size + vl + site.size
          · go_wp2_with fail
            go_ret
            exact ⟨false, rfl, rfl⟩
          by_cases m6 : 1048576 < pl
          · go_wp2_with fail
            go_ret
            exact ⟨false, rfl, rfl⟩
          by_cases m7 : 1048576 < s + key.size + vl + site.size + pl
          · go_wp2_with fail
            go_ret
            exact ⟨false, rfl, rfl⟩
          go_wp2_with fail
          go_roundw
          case rel => exact ⟨k + 1, s + key.size + vl + site.size + pl, by omega, by omega, by go_num, by go_num, by trivial⟩
          case measure => simp [intOf]; omega
        · go_wp2_with fail
          go_ret
          exact ⟨true, rfl, rfl⟩
end Go.Proofs.Qxb6605773a
