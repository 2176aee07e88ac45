/- A WriteArg: b1WriteBytes, b1ToWrite. -/
import Derived.Test.Qxb6605773aRows
import Derived.Test.Qxb6605773aBase
import Derived.Test.Qxb6605773aCloneInts
import Derived.Test.Qxb6605773aFr1
import Derived.WalkKit
import Derived.WalkSpells
import Derived.WalkLawsBesides
import Derived.Deep.RegionHeld3
namespace Go.Proofs.Qxb6605773a
open Go.RowKit

/-- A WriteArg, field by field. -/
structure WA where
  key : ByteArray
  op : Int
  va : Option Addr
  vl : Nat
  vc : Nat
  delta : Int
  t : Int
  site : ByteArray
  prev : Int
  pa : Option Addr
  pl : Nat
  pc : Nat
  pz : List Int

/-- What is known of it in memory. -/
structure WA.Ok (q : WA) (w : World) : Prop where
  key : q.key.size ≤ 9223372036854775807
  site : q.site.size ≤ 9223372036854775807
  value : IsBytes w q.va q.vl
  past : IsInts w q.pa q.pl q.pc q.pz

/-- What b1WriteBytes answers: not too much; and no more than 1 << 20 only where the lengths are small. -/
def BytesOf (q : WA) (w : World) (e : Ending) (w' : World) : Prop := ∃ r : Nat, e = .returned (.int .i64 r) ∧ r ≤ 8388608 ∧ (r ≤ 1048576 → q.vl ≤ 1048576 ∧ q.pl ≤ 131072) ∧ w.grownBy w' none

set_option maxRecDepth 100000 in
set_option maxHeartbeats 400000 in
theorem writeBytes (q : WA) (w : World) (hk : q.key.size ≤ 9223372036854775807) (hs : q.site.size ≤ 9223372036854775807) (hv : q.vl ≤ 9223372036854775807) (hp : q.pl ≤ 9223372036854775807) :
    Calls Try.prog 19 #[.agg #[.string q.key, .int .i64 q.op, .slice q.va q.vl q.vc, .int .i64 q.delta, .int .i64 q.t, .string q.site, .int .i64 q.prev, .slice q.pa q.pl q.pc]] w fun e w' => BytesOf q w e w' := by
  obtain ⟨key, op, va, vl, vc, delta, t, site, prev, pa, pl, pc, pz⟩ := q
  simp only at hk hs hv hp
  simp only
  by_cases c1 : 1048576 < key.size
  · go_enter Try.func19, Try.ntmps19
    go_wp2
    go_ret
    exact ⟨1048577, rfl, by omega, fun h => absurd h (by omega), World.grownBy_alloc _ _ _⟩
  by_cases c2 : 1048576 < vl
  · go_enter Try.func19, Try.ntmps19
    go_wp2
    go_ret
    exact ⟨1048577, rfl, by omega, fun h => absurd h (by omega), World.grownBy_alloc _ _ _⟩
  by_cases c3 : 1048576 < site.size
  · go_enter Try.func19, Try.ntmps19
    go_wp2
    go_ret
    exact ⟨1048577, rfl, by omega, fun h => absurd h (by omega), World.grownBy_alloc _ _ _⟩
  by_cases c4 : 131072 < pl
  · go_enter Try.func19, Try.ntmps19
    go_wp2
    go_ret
    exact ⟨1048577, rfl, by omega, fun h => absurd h (by omega), World.grownBy_alloc _ _ _⟩
  go_enter Try.func19, Try.ntmps19
  go_wp2
  go_ret
  exact ⟨112 + key.size + vl + site.size + 8 * pl, congrArg (fun z => Ending.returned (.int .i64 z)) (by omega), by omega, fun _ => ⟨by simp only; omega, by simp only; omega⟩, World.grownBy_alloc _ _ _⟩
end Go.Proofs.Qxb6605773a
