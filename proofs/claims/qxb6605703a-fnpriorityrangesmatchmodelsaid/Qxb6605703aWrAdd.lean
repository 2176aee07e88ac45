import Derived.Test.Qxb6605703aRows
import Derived.Test.Qxb6605703aBase
import Derived.WalkKit
import Derived.WalkSpells
import Derived.WalkLawsBesides
import Derived.BigRegion
import Derived.Deep.DeepCutAuto
import Derived.Deep.LoopGhost
namespace Go.Proofs.Qxb6605703a
open Go.RowKit

set_option maxHeartbeats 400000 in
theorem wradd_new (b o : Nat) (x : Nat) (f l m s : Int) (w : World) (h : HasWR w b o f l m s false) :
    Calls Try.prog 29 #[.pointer (some ⟨b, o, none⟩), .int .u64 x] w fun e w' => e = .returned (.tuple #[]) ∧ HasWR w' b o x x x 0 true ∧ Only w w' b o (o + 5) := by
  obtain ⟨h0, h1, h2, h3, h4, f0, f1, f2, f3, f4⟩ := h
  go_enter Try.func29, Try.ntmps29
  go_wp2
  refine bodyPost_ret (results_none rfl _ _ _) rfl ?_
  refine ⟨rfl, ?_, ?_⟩
  · exact (((((⟨h0, h1, h2, h3, h4, f0, f1, f2, f3, f4⟩ : HasWR w b o f l m s false).set0 x).set1 x).set2 x).set3 0).set4 true
  · exact (((((Only.refl w b o (o + 5)).setCell o (by omega) (by omega) _).setCell (o + 1) (by omega) (by omega) _).setCell (o + 2) (by omega) (by omega) _).setCell (o + 3) (by omega) (by omega) _).setCell (o + 4) (by omega) (by omega) _

set_option maxRecDepth 100000 in
set_option maxHeartbeats 1000000 in
theorem wradd_old (b o : Nat) (x f l m s l' m' D G : Nat) (w : World) (h : HasWR w b o f l m s true) (hx : x < 18446744073709551616) (hf : f < 18446744073709551616) (hs : s < 18446744073709551616)
    (hl1 : l' ≤ l) (hl2 : l' ≤ x) (hl3 : l ≤ l' ∨ x ≤ l') (hm1 : m ≤ m') (hm2 : x ≤ m') (hm3 : m' ≤ m ∨ m' ≤ x) (hD1 : x - f ≤ D) (hD2 : f - x ≤ D) (hD3 : D ≤ x - f ∨ D ≤ f - x) (hG : Hid (Nat.gcd s D = G)) :
    Calls Try.prog 29 #[.pointer (some ⟨b, o, none⟩), .int .u64 x] w fun e w' => e = .returned (.tuple #[]) ∧ HasWR w' b o f l' m' G true ∧ Only w w' b o (o + 5) := by
  have H := h
  obtain ⟨h0, h1, h2, h3, h4, f0, f1, f2, f3, f4⟩ := h
  go_enter Try.func29, Try.ntmps29
  go_upto_region 2 with fail
  go_cut [] (fun wx => HasWR wx b o f l' m' s true ∧ Only w wx b o (o + 5))
  case first =>
    go_region
    all_goals go_wp2
    all_goals go_meet
    all_goals exact ⟨((H.set1 _).set2 _).drew.eq rfl (by omega) (by omega) rfl, (((Only.refl w b o (o + 5)).setCell (o + 1) (by omega) (by omega) _).setCell (o + 2) (by omega) (by omega) _).drew⟩
  case rest =>
    obtain ⟨H1, O1⟩ := hcut
    clear h0 h1 h2 h3 h4 f0 f1 f2 f3 f4 H hl1 hl2 hl3 hm1 hm2 hm3
    have H2 := H1
    obtain ⟨h0, h1, h2, h3, h4, f0, f1, f2, f3, f4⟩ := H2
    by_cases hs1 : s = 1
    · subst hs1
      go_wp2
      go_end0
      exact ⟨rfl, H1.eq rfl rfl rfl (by rw [← hG.out]; simp), O1⟩
    have hs1b : ((s : Int) != 1) = true := by rw [bne_iff_ne]; omega
    by_cases hxf : x = f
    · subst hxf
      go_wp2
      go_end0
      exact ⟨rfl, H1.eq rfl rfl rfl (by rw [← hG.out, show D = 0 from by omega]; simp), O1⟩
    have hxfb : ((x : Int) != (f : Int)) = true := by rw [bne_iff_ne]; omega
    go_upto_region 4 with fail
    go_cut [4] (fun d wx => d = .int .u64 D ∧ HasWR wx b o f l' m' s true ∧ Only w wx b o (o + 5))
    case first =>
      clear h1 h2 h3 h4 f0 f1 f2 f3 f4 hs1b hxfb hs1 hG hs
      rcases Nat.lt_or_ge x f with hlt | hge
      all_goals
        go_region
        all_goals go_wp2
        all_goals go_meet
        all_goals exact ⟨congrArg (Value.int .u64) (by omega), H1.drew, O1.drew⟩
    case rest =>
      obtain ⟨rfl, H3, O3⟩ := hcut
      clear H1 O1 h0 h1 h2 h3 h4 f0 f1 f2 f3 f4 hs1b hxfb hs1 hxf
      have hD : D < 18446744073709551616 := by omega
      clear hD1 hD2 hD3
      go_wp2
      go_loopg [4] s (fun k d wr => ∃ dn : Nat, d = .int .u64 dn ∧ dn < 18446744073709551616 ∧ k < 18446744073709551616 ∧ Hid (Nat.gcd k dn = G) ∧ HasWR wr b o f l' m' k true ∧ Only w wr b o (o + 5))
      case atStart => exact ⟨D, rfl, hD, hs, hG, H3, O3⟩
      case round =>
        obtain ⟨dn, rfl, hdn, hgk, hG2, H4, O4⟩ := hrel
        clear H3 O3 hG hs hD
        have H5 := H4
        obtain ⟨h0, h1, h2, h3, h4, f0, f1, f2, f3, f4⟩ := H5
        by_cases hk0 : gk = 0
        · subst hk0
          go_wp2
          go_end0
          exact ⟨rfl, (H4.set3 _).eq rfl rfl rfl (by rw [← hG2.out]; simp), O4.setCell (o + 3) (by omega) (by omega) _⟩
        have hk0b : ((gk : Int) != 0) = true := by rw [bne_iff_ne]; omega
        go_wp2_with fail
        go_region
        have hml : dn % gk < gk := Nat.mod_lt _ (by omega)
        have hgg : Hid (Nat.gcd (dn % gk) gk = G) := (Nat.gcd_rec gk dn).symm.trans hG2.out
        all_goals go_wp2
        all_goals go_roundg (dn % gk)
        case measure => exact hml
        case rel => exact ⟨gk, rfl, hgk, by omega, hgg, (H4.set3 _).drew.eq rfl rfl rfl (by simp), (O4.setCell (o + 3) (by omega) (by omega) _).drew⟩

/-- (*wordRange).add, whatever lies there. -/
theorem wradd (b o : Nat) (x f l m s : Nat) (sn : Bool) (w : World) (h : HasWR w b o f l m s sn) (hx : x < 18446744073709551616) (hf : f < 18446744073709551616) (hs : s < 18446744073709551616) :
    Calls Try.prog 29 #[.pointer (some ⟨b, o, none⟩), .int .u64 x] w fun e w' => e = .returned (.tuple #[]) ∧
      HasWR w' b o (if sn then f else x : Nat) (if sn then min l x else x : Nat) (if sn then max m x else x : Nat) (if sn then Nat.gcd s (max x f - min x f) else 0 : Nat) true ∧ Only w w' b o (o + 5) := by
  cases sn with
  | false => exact wradd_new b o x f l m s w h
  | true => exact wradd_old b o x f l m s (min l x) (max m x) (max x f - min x f) _ w h hx hf hs (by omega) (by omega) (by omega) (by omega) (by omega) (by omega) (by omega) (by omega) (by omega) rfl
end Go.Proofs.Qxb6605703a
