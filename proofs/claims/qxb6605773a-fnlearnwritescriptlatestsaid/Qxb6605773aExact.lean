/- FnClockSetExact, walked. -/
import Derived.Test.Qxb6605773aRows
import Derived.Test.Qxb6605773aBase
import Derived.Test.Qxb6605773aClock
import Derived.Test.Qxb6605773aCloneInts
import Derived.WalkKit
import Derived.WalkSpells
import Derived.WalkLawsBesides
namespace Go.Proofs.Qxb6605773a
open Go.RowKit

theorem setAt_length (zs : List Int) (n : Nat) (t : Int) : (setAt zs n t).length = max zs.length (n + 1) := by
  rw [setAt, List.length_set, pad_length _ _ (by omega)]
theorem pad_get (zs : List Int) (m i : Nat) : (pad zs m).getD i 0 = zs.getD i 0 := by
  simp only [pad, List.getD_eq_getElem?_getD]
  by_cases h : i < zs.length
  · rw [List.getElem?_append_left h]
  · rw [List.getElem?_append_right (by omega), List.getElem?_eq_none (by omega : zs.length ≤ i), List.getElem?_replicate]
    split <;> rfl
theorem setAt_get (zs : List Int) (n : Nat) (t : Int) (i : Nat) : (setAt zs n t).getD i 0 = if i = n then t else zs.getD i 0 := by
  have h := pad_get zs (max zs.length (n + 1)) i
  have hl := pad_length zs (max zs.length (n + 1)) (by omega)
  unfold setAt
  generalize pad zs (max zs.length (n + 1)) = l at *
  by_cases e : i = n
  · subst e
    rw [if_pos rfl, List.getD_eq_getElem?_getD, List.getElem?_set_self (by omega)]
    rfl
  · rw [if_neg e, List.getD_eq_getElem?_getD, List.getElem?_set_ne (fun e' => e e'.symm), ← List.getD_eq_getElem?_getD]
    exact h
theorem getD_past {zs : List Int} {i : Nat} (h : zs.length ≤ i) : zs.getD i 0 = 0 := by simp [List.getD_eq_getElem?_getD, List.getElem?_eq_none h]

set_option maxHeartbeats 400000 in
/-- zzBytes_FnClockSetExact -/
theorem bytes8 (a : Option Addr) (len cap : Nat) (n t : Int) (w : World) (hl : len ≤ 9223372036854775807) :
    Calls Try.prog 8 #[.slice a len cap, .int .i64 n, .int .i64 t] w fun e w' => e = .returned (.bool (decide (len ≤ 1048576))) ∧ w = w' := by
  by_cases h : len ≤ 1048576
  · go_enter Try.func8, Try.ntmps8
    go_wp2
    go_ret
    exact ⟨by rw [decide_eq_true h]; rfl, rfl⟩
  · go_enter Try.func8, Try.ntmps8
    go_wp2
    go_ret
    exact ⟨by rw [decide_eq_false h]; rfl, rfl⟩

set_option maxRecDepth 100000 in
set_option maxHeartbeats 400000 in
theorem exact_short (a : Option Addr) (len cap : Nat) (n t : Int) (w : World) (hl : len ≤ 9223372036854775807) (h : 131072 < len ∨ n < 0 ∨ 65536 < n) :
    Calls Try.prog 3 #[.slice a len cap, .int .i64 n, .int .i64 t] w fun e w' => e = .returned (.bool true) ∧ w = w' := by
  by_cases h2 : len ≤ 1048576
  · go_enter Try.func3, Try.ntmps3
    go_wp2_with fail
    refine (bytes8 a len cap n t _ hl).mono ?_
    rintro e w1 ⟨rfl, rfl⟩
    rw [decide_eq_true h2]
    by_cases h3 : 131072 < len
    · go_wp2_with fail
      go_ret
      exact ⟨rfl, rfl⟩
    · by_cases h4 : n < 0
      · go_wp2_with fail
        go_ret
        exact ⟨rfl, rfl⟩
      · have h5 : 65536 < n := by omega
        go_wp2_with fail
        go_ret
        exact ⟨rfl, rfl⟩
  · go_enter Try.func3, Try.ntmps3
    go_wp2_with fail
    refine (bytes8 a len cap n t _ hl).mono ?_
    rintro e w1 ⟨rfl, rfl⟩
    rw [decide_eq_false h2]
    go_wp2_with fail
    go_ret
    exact ⟨rfl, rfl⟩

set_option maxRecDepth 100000 in
set_option maxHeartbeats 1000000 in
theorem exact_main (a : Option Addr) (len cap n : Nat) (t : Int) (zs : List Int) (w : World) (h : IsInts w a len cap zs) (hl : len ≤ 131072) (hn : n ≤ 65536) :
    Calls Try.prog 3 #[.slice a len cap, .int .i64 n, .int .i64 t] w fun e w' => e = .returned (.bool true) ∧ Below w.heap.size w w' := by
  have HI := hide h
  have hzl : zs.length = len := h.1
  have HX : Hid (0 < len → ∃ b off, a = some ⟨b, off, none⟩ ∧ b < w.heap.size ∧ ∀ i, i < len → w.cell? ⟨b, off + i, none⟩ = some (.int .i64 (zs.getD i 0))) := by
    intro h0
    rcases h.2 with ⟨_, h1, _⟩ | ⟨⟨b, off, spot⟩, rfl, _, hx⟩
    · omega
    · obtain ⟨hs, hb, hc⟩ := hx h0
      simp only at hs hb hc
      subst hs
      exact ⟨b, off, rfl, hb, hc⟩
  have hlb : decide ((131072 : Int) < (len : Int)) = false := decide_eq_false (by omega)
  have hn1 : decide ((n : Int) < 0) = false := decide_eq_false (by omega)
  have hn2 : decide ((65536 : Int) < (n : Int)) = false := decide_eq_false (by omega)
  clear h
  go_enter Try.func3, Try.ntmps3
  go_wp2_with fail
  refine (bytes8 a len cap n t w (by omega)).mono ?_
  rintro e w1 ⟨rfl, rfl⟩
  rw [decide_eq_true (by omega)]
  go_wp2_with fail
  refine (cloneI a len cap zs w HI.out (by omega)).mono ?_
  rintro e w1 ⟨v1, rfl, O1, G1, hnil⟩
  clear hnil
  have B1 : Below w.heap.size w w1 := (Below.refl _ _).grown G1 (Nat.le_refl _) (fun k hk => by cases hk)
  clear G1
  go_wp2_with fail
  refine (zzclockSet w.heap.size n t zs v1 w1 B1.size O1 hn).mono ?_
  rintro e w2 ⟨⟨v2, rfl, O2⟩, B2⟩
  have B3 := B1.trans B2
  clear B1 B2 O1 HI
  have hL := setAt_length zs n t
  obtain ⟨g, cap2, rfl, hg, _⟩ := own_some O2 (by omega)
  have HG : Hid (∀ i, i < (setAt zs n t).length → w2.cell? ⟨g, i, none⟩ = some (.int .i64 (if i = n then t else zs.getD i 0))) := fun i hi => by
    rw [O2.cellAt i (by omega), ints_get _ _ hi, setAt_get]
  obtain ⟨L, hL1, hL2, hL3⟩ : ∃ L, (setAt zs n t).length = L ∧ (len ≤ L ∧ n + 1 ≤ L) ∧ (L ≤ len ∨ L ≤ n + 1) := ⟨_, rfl, by omega, by omega⟩
  rw [hL1] at HG ⊢
  clear hL hL1 O2
  by_cases hcase : len < n + 1
  · have b1 : decide ((len : Int) < (n : Int) + 1) = true := decide_eq_true (by omega)
    obtain rfl : L = n + 1 := by omega
    go_wp2_with fail
    go_loop [9] (fun i => ∃ k : Nat, k ≤ n + 1 ∧ i = .int .i64 k) (fun i => (n + 1) - (intOf i).toNat)
    case atStart => exact ⟨0, Nat.zero_le _, rfl⟩
    case round =>
      obtain ⟨k, hk, rfl⟩ := hrel
      by_cases hlt : k < n + 1
      · have g0 := HG.out k hlt
        by_cases hkl : k < len
        · obtain ⟨b, off, rfl, hb, hc⟩ := HX.out (by omega)
          have r0 : w2.cell? ⟨b, off + k, none⟩ = some (.int .i64 (zs.getD k 0)) := by rw [B3.cell (p := ⟨b, off + k, none⟩) hb]; exact hc k hkl
          clear hc HX
          generalize zs.getD k 0 = z at *
          by_cases hkn : k = n
          · rw [if_pos hkn] at g0
            have b3 : ((k : Int) == (n : Int)) = true := beq_iff_eq.2 (by omega)
            clear hkn
            go_wp2
            go_round
            case rel => exact ⟨k + 1, by omega, by go_num⟩
            case measure => simp [intOf]; omega
          · rw [if_neg hkn] at g0
            have b3 : ((k : Int) == (n : Int)) = false := beq_eq_false_iff_ne.2 (by omega)
            clear hkn
            go_wp2
            go_round
            case rel => exact ⟨k + 1, by omega, by go_num⟩
            case measure => simp [intOf]; omega
        · rw [getD_past (by omega)] at g0
          by_cases hkn : k = n
          · rw [if_pos hkn] at g0
            have b3 : ((k : Int) == (n : Int)) = true := beq_iff_eq.2 (by omega)
            clear hkn
            go_wp2
            go_round
            case rel => exact ⟨k + 1, by omega, by go_num⟩
            case measure => simp [intOf]; omega
          · rw [if_neg hkn] at g0
            have b3 : ((k : Int) == (n : Int)) = false := beq_eq_false_iff_ne.2 (by omega)
            clear hkn
            go_wp2
            go_round
            case rel => exact ⟨k + 1, by omega, by go_num⟩
            case measure => simp [intOf]; omega
      · go_wp2
        go_ret
        exact ⟨rfl, B3⟩
  · have b1 : decide ((len : Int) < (n : Int) + 1) = false := decide_eq_false (by omega)
    obtain rfl : len = L := by omega
    go_wp2_with fail
    go_loop [9] (fun i => ∃ k : Nat, k ≤ len ∧ i = .int .i64 k) (fun i => len - (intOf i).toNat)
    case atStart => exact ⟨0, Nat.zero_le _, rfl⟩
    case round =>
      obtain ⟨k, hk, rfl⟩ := hrel
      by_cases hlt : k < len
      · have g0 := HG.out k hlt
        by_cases hkl : k < len
        · obtain ⟨b, off, rfl, hb, hc⟩ := HX.out (by omega)
          have r0 : w2.cell? ⟨b, off + k, none⟩ = some (.int .i64 (zs.getD k 0)) := by rw [B3.cell (p := ⟨b, off + k, none⟩) hb]; exact hc k hkl
          clear hc HX
          generalize zs.getD k 0 = z at *
          by_cases hkn : k = n
          · rw [if_pos hkn] at g0
            have b3 : ((k : Int) == (n : Int)) = true := beq_iff_eq.2 (by omega)
            clear hkn
            go_wp2
            go_round
            case rel => exact ⟨k + 1, by omega, by go_num⟩
            case measure => simp [intOf]; omega
          · rw [if_neg hkn] at g0
            have b3 : ((k : Int) == (n : Int)) = false := beq_eq_false_iff_ne.2 (by omega)
            clear hkn
            go_wp2
            go_round
            case rel => exact ⟨k + 1, by omega, by go_num⟩
            case measure => simp [intOf]; omega
        · exact absurd hlt hkl
      · go_wp2
        go_ret
        exact ⟨rfl, B3⟩
end Go.Proofs.Qxb6605773a
