/- The statement FnNameBlocksFillOneBlockInOrderSaid. -/
import Derived.Test.Qxb6605703aRows
import Derived.Test.Qxb6605703aStrs
import Derived.Test.Qxb6605703aFillLaw
import Derived.WalkKit
import Derived.ProofKit
import Derived.OpenShut
import Derived.ShutString
import Derived.ChangeOld
import Derived.Below
namespace Go.Proofs.Qxb6605703a.fillLaw
open Go.ChangeShapes Go.WideShapes Go.ChangeAt Go.RowKit
set_option linter.unusedVariables false

theorem walk (a : Option Addr) (len cap : Nat) (ss : Nat → ByteArray) (w : World) (h : IsStrs w a len cap ss) :
    Calls Try.prog 4 #[.slice a len cap] w fun e w' => e = .returned (.bool true) ∧ Below w.heap.size w w' := by
  rcases h with ⟨rfl, rfl, rfl⟩ | ⟨x, rfl, hm, hz, hx⟩
  · exact fillLaw_zero none 0 w (fun _ => rfl)
  · by_cases h0 : len = 0
    · subst h0
      exact fillLaw_zero (some x) cap w (fun e => by cases e)
    · obtain ⟨hs, hb, hc⟩ := hx (by omega)
      obtain ⟨b, off, spot⟩ := x
      simp only at hs hb hc
      subst hs
      exact fillLaw_some b off len cap ss w hm hb (by omega) hz hc

set_option maxRecDepth 100000 in
theorem lifted (os : Os) (started : os.Started) (H : Type) (enc : TypeId × Value → H) :
    ReturnsInHanded {} Try.checked os 4 .any (Rows.fnNameBlocksFillOneBlockInOrderSpec.pre6 enc Try.prog Try.f4 Rows.fnNameBlocksFillOneBlockInOrderRow.domain false) (Rows.fnNameBlocksFillOneBlockInOrderSpec.post enc Try.prog Try.f4 false true false false) := by
  refine returnsInHanded_of_change (C := Try.checked) own started (by kernel_rfl) Try.func4
    (ChangeSpec.witness6 (enc := enc) (C := Try.checked) false ⟨#[], #[.slice none 0 0], []⟩ 8 (by kernel_rfl) (by kernel_rfl) (by kernel_rfl) (by kernel_rfl)) ?_
  intro W base args ds gs before hval0 hW hcnd _
  have hval : ∀ (j : Nat) t v, Try.f4.params[j]? = some t → args[j]? = some v → Value.okWide Try.prog W .any base t v := hval0
  have hW' := hW
  obtain ⟨p, q, hA0, hV, rfl, hfz, hnd⟩ := hW
  have hA : DataW.TrodAll enc Try.prog W 0 (fun _ => true) true Try.f4.params.toList args.toList ds p := hA0
  rw [Try.params4] at hA hval
  obtain ⟨v0, vs0, d0, ds0, p0, q0, hargs, rfl, rfl, h0, r0⟩ := trodAll_cons hA
  obtain ⟨rfl, rfl, rfl⟩ := trodAll_nil r0
  obtain rfl : args = #[v0] := by cases args; simp_all
  obtain ⟨rfl, rfl⟩ := trodVars_none hV
  obtain ⟨a0, len0, cap0, rfl⟩ := okWide_slice Try.underlying22 (hval 0 22 v0 rfl rfl)
  have k0 := h0
  have lt0 : ∀ x ∈ p0, x.block < W.heap.size := by obtain ⟨m, hm⟩ := k0; exact DataW.trod_lt m _ _ _ hm
  obtain ⟨z0, w0⟩ : ∃ z, IsStrs W a0 len0 cap0 z := by
    obtain ⟨fuel, hf⟩ := h0
    exact isStrs (by simpa [Value.cells] using hf)
  clear hA0 hval0
  refine (walk a0 len0 cap0 z0 W w0).mono fun e W' ⟨he, bel⟩ => ?_
  subst he
  exact ⟨_, rfl, _, _, _, [], _, [], hW', trodAll_mk1 (shut_bool Try.underlying4 _), (trodAll_cons_mk (Below.trod laidOut (by kernel_rfl) (of_decide_eq_true (by kernel_rfl)) k0 bel lt0) trodAll_mk0), rfl, bel.frame _, fun h => by cases h⟩

theorem over : Rows.fnNameBlocksFillOneBlockInOrderRow.holds Try.pinned (OpenSpec.ofChange Rows.fnNameBlocksFillOneBlockInOrderSpec) :=
  OpenClaim.holds_of_wide 4 Try.f4 rfl rfl rfl rfl rfl rfl rfl ⟨rfl, rfl, rfl, rfl, rfl⟩ rfl rfl rfl rfl rfl (by kernel_rfl) Try.func4 (by kernel_rfl)
    (of_decide_eq_true (by kernel_rfl)) (by unfold Func.isWrapper; first | (rw [if_pos (by decide +kernel)]; kernel_rfl) | (rw [if_neg (by decide +kernel)]; exact ⟨rfl, rfl⟩))
    (fun os started H enc _ => lifted os started H enc)

end Go.Proofs.Qxb6605703a.fillLaw
namespace Go.Proofs.Qxb6605703a
/-- THE STATEMENT -/
theorem fnNameBlocksFillOneBlockInOrderProved : Rows.FnNameBlocksFillOneBlockInOrderSaid := fillLaw.over
#print axioms fnNameBlocksFillOneBlockInOrderProved
end Go.Proofs.Qxb6605703a
