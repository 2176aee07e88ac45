/- (*nameBlocks).keep and the ZZ functions over it. -/
import Derived.Test.Qxb6605703aRows
import Derived.Test.Qxb6605703aBase
import Derived.Test.Qxb6605703aBld
import Derived.WalkKit
import Derived.WalkSpells
import Derived.WalkLawsBesides
import Derived.Deep.QuietTactic
import Derived.BigQuiet
import Derived.Deep.DeepCutAuto
import Derived.Lib.IndexBytes
namespace Go.Proofs.Qxb6605703a
open Go.RowKit

theorem bld_lenQ (k : Nat) (a : Option Addr) (n c : Nat) (w : World) (h : w.cell? ⟨k, 1, none⟩ = some (.slice a n c)) :
    Calls Try.prog 24 #[.pointer (some ⟨k, 0, none⟩)] w fun e w' => e = .returned (.int .i64 n) ∧ w' = w := (bld_len k a n c w h).mono fun _ _ ⟨a, b⟩ => ⟨a, b.symm⟩
theorem bld_capQ (k : Nat) (a : Option Addr) (n c : Nat) (w : World) (h : w.cell? ⟨k, 1, none⟩ = some (.slice a n c)) :
    Calls Try.prog 25 #[.pointer (some ⟨k, 0, none⟩)] w fun e w' => e = .returned (.int .i64 c) ∧ w' = w := (bld_cap k a n c w h).mono fun _ _ ⟨a, b⟩ => ⟨a, b.symm⟩

theorem bytes_ext {a b : ByteArray} (h : a.data.toList = b.data.toList) : a = b := by rw [← Lib.mk_data a, ← Lib.mk_data b, h]
theorem tail_back (l : List UInt8) (s : ByteArray) : (⟨(l ++ s.data.toList).toArray⟩ : ByteArray).extract l.length (l.length + s.size) = s := by
  have hsz : (⟨(l ++ s.data.toList).toArray⟩ : ByteArray).size = l.length + s.size := by rw [Lib.size_eq, Lib.size_eq]; simp
  have h := Lib.extract_to_end (⟨(l ++ s.data.toList).toArray⟩ : ByteArray) l.length
  simp only [List.drop_left, hsz] at h
  exact bytes_ext h

set_option maxHeartbeats 1000000 in
set_option maxRecDepth 100000 in
theorem keep_room (B k : Nat) (p : Value) (l : List UInt8) (cap : Nat) (s : ByteArray) (w : World) (h : NB w B k p l cap) (hp : Own k p) (hr : l.length + s.size ≤ cap) :
    Calls Try.prog 22 #[.pointer (some ⟨k, 0, none⟩), .string s] w fun e w' => e = .returned (.string s) ∧ NB w' B k (.pointer (some ⟨k, 0, none⟩)) (l ++ s.data.toList) cap ∧ Keeps B k w w' := by
  have h1 := h
  obtain ⟨hk, hB, v, hb, hbuf⟩ := h1
  obtain ⟨a, rfl⟩ := hbuf.form
  have hle := hbuf.le
  have c1 : w.cell? ⟨k, 1, none⟩ = some (.slice a l.length cap) := by rw [Lib.cell_of_heap hb]; rfl
  have HN := hide h
  have HP := hide hp
  clear h hp hb hbuf
  go_enter Try.func22, Try.ntmps22
  go_wp2_with fail
  go_quiet ((first | (go_at_call 25; exact Calls.quiet_of_same (bld_capQ k a l.length cap _ c1)) | (go_at_call 24; exact Calls.quiet_of_same (bld_lenQ k a l.length cap _ c1))))
  go_wp2_with fail
  refine (bld_len k a l.length cap (w.drewN nq) c1).mono ?_
  rintro e w1 ⟨rfl, rfl⟩
  go_wp2_with fail
  refine (bld_write B k p l cap s (w.drewN nq) (NB.drewN nq HN.out) HP.out hr).mono ?_
  rintro e w1 ⟨rfl, N1, K1⟩
  go_wp2_with fail
  refine (bld_string B k _ _ cap w1 N1).mono ?_
  rintro e w2 ⟨rfl, N2, K2⟩
  have HT := hide (tail_back l s)
  have hsz : (⟨(l ++ s.data.toList).toArray⟩ : ByteArray).size = l.length + s.size := by rw [Lib.size_eq, Lib.size_eq]; simp
  clear HN HP N1
  generalize (⟨(l ++ s.data.toList).toArray⟩ : ByteArray) = S at *
  go_wp2_with fail
  go_ret
  exact ⟨congrArg (fun x => Ending.returned (.string x)) HT.out, N2, (((Keeps.refl B k w).drewN nq).trans K1).trans K2⟩

theorem bld_GrowI (B k : Nat) (m : Int) (w : World) (hk : k < B) (hB : B ≤ w.heap.size) (hbk : w.heap[k]? = some (.cells #[.pointer none, .slice none 0 0] 46 (0, 0))) (h1 : 65536 ≤ m) (h2 : m ≤ 281474976710656) :
    Calls Try.prog 27 #[.pointer (some ⟨k, 0, none⟩), .int .i64 m] w fun e w' => e = .returned (.tuple #[]) ∧ (∃ cap, m.toNat ≤ cap ∧ NB w' B k (.pointer (some ⟨k, 0, none⟩)) [] cap) ∧ Keeps B k w w' := by
  obtain ⟨n, rfl⟩ := Int.eq_ofNat_of_zero_le (a := m) (by omega)
  exact bld_Grow B k n w hk hB hbk (by omega) (by omega)

theorem reset_heap {w : World} {k : Nat} {p v : Value} (n : Nat) (hb : w.heap[k]? = some (.cells #[p, v] 46 (0, 0))) :
    (((w.drewN n).setCell ⟨k, 0, none⟩ (.pointer none)).setCell ⟨k, 1, none⟩ (.slice none 0 0)).heap[k]? = some (.cells #[.pointer none, .slice none 0 0] 46 (0, 0)) := by
  simp [World.setCell, Array.getElem?_modify, hb]

set_option maxHeartbeats 1000000 in
set_option maxRecDepth 100000 in
theorem keep_new (B k : Nat) (p : Value) (l : List UInt8) (cap : Nat) (s : ByteArray) (w : World) (h : NB w B k p l cap) (hr : cap < l.length + s.size) (hs : s.size ≤ 281474976710656) :
    Calls Try.prog 22 #[.pointer (some ⟨k, 0, none⟩), .string s] w fun e w' => e = .returned (.string s) ∧ (∃ cap', NB w' B k (.pointer (some ⟨k, 0, none⟩)) s.data.toList cap' ∧ 65536 ≤ cap') ∧ Keeps B k w w' := by
  have h1 := h
  obtain ⟨hk, hB, v, hb, hbuf⟩ := h1
  obtain ⟨a, rfl⟩ := hbuf.form
  have hle := hbuf.le
  have c0 : w.cell? ⟨k, 0, none⟩ = some p := by rw [Lib.cell_of_heap hb]; rfl
  have c1 : w.cell? ⟨k, 1, none⟩ = some (.slice a l.length cap) := by rw [Lib.cell_of_heap hb]; rfl
  have f0 : w.frozen? ⟨k, 0, none⟩ = false := Lib.frozen_of_heap hb 0
  have f1 : w.frozen? ⟨k, 1, none⟩ = false := Lib.frozen_of_heap hb 1
  have HB := hide hb
  clear h hb hbuf
  go_enter Try.func22, Try.ntmps22
  go_wp2_with fail
  go_quiet ((first | (go_at_call 25; exact Calls.quiet_of_same (bld_capQ k a l.length cap _ c1)) | (go_at_call 24; exact Calls.quiet_of_same (bld_lenQ k a l.length cap _ c1))))
  go_upto_region 3 with fail
  by_cases hcase : s.size < 65536
  · go_wp2_with fail
    refine (bld_GrowI B k _ _ hk (by simpa using hB) (reset_heap nq HB.out) (by omega) (by omega)).mono ?_
    rintro e w1 ⟨rfl, ⟨cap1, hc1, N1⟩, K1⟩
    have K1' : Keeps B k w w1 := ((((Keeps.refl B k w).drewN nq).setCell 0 _).setCell 1 _).trans K1
    have g1 : ∃ a, w1.cell? ⟨k, 1, none⟩ = some (.slice a 0 cap1) := by
      obtain ⟨_, _, v, hb, hbuf⟩ := N1
      obtain ⟨a, rfl⟩ := hbuf.form
      exact ⟨a, by rw [Lib.cell_of_heap hb]; rfl⟩
    obtain ⟨a1, g1⟩ := g1
    have hroom : ([] : List UInt8).length + s.size ≤ cap1 := by simp only [List.length_nil]; omega
    have HN := hide N1
    clear K1 c0 c1 f0 f1 HB N1
    go_wp2_with fail
    refine (bld_len k a1 0 cap1 w1 g1).mono ?_
    rintro e w2 ⟨rfl, rfl⟩
    go_wp2_with fail
    refine (bld_write B k _ [] cap1 s w1 HN.out (.inr rfl) hroom).mono ?_
    rintro e w2 ⟨rfl, N2, K2⟩
    rw [List.nil_append] at N2
    go_wp2_with fail
    refine (bld_string B k _ _ cap1 w2 N2).mono ?_
    rintro e w3 ⟨rfl, N3, K3⟩
    rw [Lib.mk_data]
    clear HN N2 g1
    go_wp2_with fail
    go_ret
    exact ⟨rfl, ⟨cap1, N3, by omega⟩, (K1'.trans K2).trans K3⟩
  · go_wp2_with fail
    refine (bld_GrowI B k _ _ hk (by simpa using hB) (reset_heap nq HB.out) (by omega) (by omega)).mono ?_
    rintro e w1 ⟨rfl, ⟨cap1, hc1, N1⟩, K1⟩
    have K1' : Keeps B k w w1 := ((((Keeps.refl B k w).drewN nq).setCell 0 _).setCell 1 _).trans K1
    have g1 : ∃ a, w1.cell? ⟨k, 1, none⟩ = some (.slice a 0 cap1) := by
      obtain ⟨_, _, v, hb, hbuf⟩ := N1
      obtain ⟨a, rfl⟩ := hbuf.form
      exact ⟨a, by rw [Lib.cell_of_heap hb]; rfl⟩
    obtain ⟨a1, g1⟩ := g1
    have hroom : ([] : List UInt8).length + s.size ≤ cap1 := by simp only [List.length_nil]; omega
    have HN := hide N1
    clear K1 c0 c1 f0 f1 HB N1
    go_wp2_with fail
    refine (bld_len k a1 0 cap1 w1 g1).mono ?_
    rintro e w2 ⟨rfl, rfl⟩
    go_wp2_with fail
    refine (bld_write B k _ [] cap1 s w1 HN.out (.inr rfl) hroom).mono ?_
    rintro e w2 ⟨rfl, N2, K2⟩
    rw [List.nil_append] at N2
    go_wp2_with fail
    refine (bld_string B k _ _ cap1 w2 N2).mono ?_
    rintro e w3 ⟨rfl, N3, K3⟩
    rw [Lib.mk_data]
    clear HN N2 g1
    go_wp2_with fail
    go_ret
    exact ⟨rfl, ⟨cap1, N3, by omega⟩, (K1'.trans K2).trans K3⟩

set_option maxHeartbeats 400000 in
/-- ZZkeep -/
theorem zzkeep (B k : Nat) (p : Value) (l : List UInt8) (cap : Nat) (s : ByteArray) (w : World) (h : NB w B k p l cap) (hp : Own k p) (hs : s.size ≤ 281474976710656) :
    Calls Try.prog 10 #[.pointer (some ⟨k, 0, none⟩), .string s] w fun e w' => e = .returned (.string s) ∧
      (∃ l' cap', NB w' B k (.pointer (some ⟨k, 0, none⟩)) l' cap' ∧ ((l.length + s.size ≤ cap ∧ l' = l ++ s.data.toList ∧ cap' = cap) ∨ (cap < l.length + s.size ∧ l' = s.data.toList ∧ 65536 ≤ cap'))) ∧ Keeps B k w w' := by
  by_cases hr : l.length + s.size ≤ cap
  · go_enter Try.func10, Try.ntmps10
    go_wp2_with fail
    refine (keep_room B k p l cap s w h hp hr).mono ?_
    rintro e w1 ⟨rfl, N1, K1⟩
    go_wp2_with fail
    go_ret
    exact ⟨rfl, ⟨_, _, N1, .inl ⟨hr, rfl, rfl⟩⟩, K1⟩
  · go_enter Try.func10, Try.ntmps10
    go_wp2_with fail
    refine (keep_new B k p l cap s w h (by omega) hs).mono ?_
    rintro e w1 ⟨rfl, ⟨cap', N1, h64⟩, K1⟩
    go_wp2_with fail
    go_ret
    exact ⟨rfl, ⟨_, _, N1, .inr ⟨by omega, rfl, h64⟩⟩, K1⟩

set_option maxHeartbeats 400000 in
/-- ZZnameBlocksString -/
theorem zzstring (B k : Nat) (p : Value) (l : List UInt8) (cap : Nat) (w : World) (h : NB w B k p l cap) :
    Calls Try.prog 11 #[.pointer (some ⟨k, 0, none⟩)] w fun e w' => e = .returned (.string ⟨l.toArray⟩) ∧ NB w' B k p l cap ∧ Keeps B k w w' := by
  go_enter Try.func11, Try.ntmps11
  go_wp2_with fail
  refine (bld_string B k p l cap w h).mono ?_
  rintro e w1 ⟨rfl, N1, K1⟩
  go_wp2_with fail
  go_ret
  exact ⟨rfl, N1, K1⟩

theorem NB.cell1 {w : World} {B k : Nat} {p : Value} {l : List UInt8} {cap : Nat} (h : NB w B k p l cap) : ∃ a, w.cell? ⟨k, 1, none⟩ = some (.slice a l.length cap) := by
  obtain ⟨_, _, v, hb, hbuf⟩ := h
  obtain ⟨a, rfl⟩ := hbuf.form
  exact ⟨a, by rw [Lib.cell_of_heap hb]; rfl⟩

set_option maxHeartbeats 400000 in
/-- ZZnameBlocksLen -/
theorem zzlen (B k : Nat) (p : Value) (l : List UInt8) (cap : Nat) (w : World) (h : NB w B k p l cap) :
    Calls Try.prog 12 #[.pointer (some ⟨k, 0, none⟩)] w fun e w' => e = .returned (.int .i64 l.length) ∧ w = w' := by
  obtain ⟨a, c1⟩ := h.cell1
  go_enter Try.func12, Try.ntmps12
  go_wp2_with fail
  refine (bld_len k a l.length cap w c1).mono ?_
  rintro e w1 ⟨rfl, rfl⟩
  go_wp2_with fail
  go_ret
  exact ⟨rfl, rfl⟩

set_option maxHeartbeats 400000 in
/-- ZZnameBlocksCap -/
theorem zzcap (B k : Nat) (p : Value) (l : List UInt8) (cap : Nat) (w : World) (h : NB w B k p l cap) :
    Calls Try.prog 13 #[.pointer (some ⟨k, 0, none⟩)] w fun e w' => e = .returned (.int .i64 cap) ∧ w = w' := by
  obtain ⟨a, c1⟩ := h.cell1
  go_enter Try.func13, Try.ntmps13
  go_wp2_with fail
  refine (bld_cap k a l.length cap w c1).mono ?_
  rintro e w1 ⟨rfl, rfl⟩
  go_wp2_with fail
  go_ret
  exact ⟨rfl, rfl⟩

set_option maxHeartbeats 400000 in
/-- ZZnewNameBlocks: a new block. -/
theorem zznewNB (w : World) :
    Calls Try.prog 9 #[] w fun e w' => e = .returned (.pointer (some ⟨w.heap.size, 0, none⟩)) ∧ w' = w.alloc (.cells #[.pointer none, .slice none 0 0] 46) := by
  go_enter Try.func9, Try.ntmps9
  go_wp2
  go_ret
  exact ⟨rfl, rfl⟩
end Go.Proofs.Qxb6605703a
