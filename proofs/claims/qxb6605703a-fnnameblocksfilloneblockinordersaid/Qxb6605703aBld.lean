/- strings.Builder inside a nameBlocks: its methods, walked over this program. -/
import Derived.Test.Qxb6605703aRows
import Derived.Test.Qxb6605703aBase
import Derived.WalkKit
import Derived.WalkSpells
import Derived.WalkLawsBesides
import Derived.Lib.FrozenHead
import Derived.Lib.MakeNoZero
import Derived.Lib.UnsafeStr
import Derived.Lib.Strings
import Derived.Laws.Externs
import Derived.BigRegion
namespace Go.Proofs.Qxb6605703a
open Go.RowKit

theorem Try.lies44 : liesAt Try.prog Try.prog.depth 46 (2 / Try.prog.cellsOf 46) 0 44 1 = true := by kernel_rfl
theorem Try.size44 : (Try.prog.info? 44).map (·.size) = some 2 := by kernel_rfl
theorem Try.info5 : (Try.prog.info? 5).map (fun i => (i.zero, i.size, i.bytes)) = some (some (.int .u8 0), 1, 1) := by kernel_rfl
theorem Try.cells5 : Try.prog.cellsOf 5 = 1 := by kernel_rfl
theorem Try.size5 : (Try.prog.info? 5).map (·.size) = some 1 := by kernel_rfl

/-- Blocks below B, but for block k, are as they were. -/
structure Keeps (B k : Nat) (w w' : World) : Prop where
  os : w'.os = w.os
  tape : w'.tape = w.tape
  output : w'.output = w.output
  size : w.heap.size ≤ w'.heap.size
  block : ∀ i, i < B → i ≠ k → w'.heap[i]? = w.heap[i]?

theorem Keeps.refl (B k : Nat) (w : World) : Keeps B k w w := ⟨rfl, rfl, rfl, Nat.le_refl _, fun _ _ _ => rfl⟩
theorem Keeps.trans {B k : Nat} {a b c : World} (h : Keeps B k a b) (g : Keeps B k b c) : Keeps B k a c :=
  ⟨g.os.trans h.os, g.tape.trans h.tape, g.output.trans h.output, Nat.le_trans h.size g.size, fun i hi hk => (g.block i hi hk).trans (h.block i hi hk)⟩
theorem Keeps.drew {B k : Nat} {a w : World} (h : Keeps B k a w) : Keeps B k a w.drew := ⟨h.os, h.tape, h.output, h.size, h.block⟩
theorem Keeps.drewN {B k : Nat} {a w : World} (n : Nat) (h : Keeps B k a w) : Keeps B k a (w.drewN n) := ⟨h.os, h.tape, h.output, h.size, h.block⟩
theorem Keeps.setCell {B k : Nat} {a w : World} (h : Keeps B k a w) (j : Nat) (v : Value) : Keeps B k a (w.setCell ⟨k, j, none⟩ v) :=
  h.trans ⟨rfl, rfl, rfl, by simp, fun i _ hk => Below.heap_setCell _ _ _ _ hk⟩
theorem Keeps.alloc {B k : Nat} {a w : World} (h : Keeps B k a w) (hB : B ≤ w.heap.size) (o : Obj) : Keeps B k a (w.alloc o) :=
  h.trans ⟨rfl, rfl, rfl, by simp, fun i hi _ => Below.heap_alloc _ _ _ (by omega)⟩
theorem Keeps.grown {B k : Nat} {a w w' : World} {r : Option Nat} (h : Keeps B k a w) (g : w.grownBy w' r) (hB : B ≤ w.heap.size) (hr : ∀ i, r = some i → B ≤ i) : Keeps B k a w' :=
  h.trans ⟨g.os, g.tape, g.output, g.size, fun i hi _ => g.block i (by omega) (fun e => by have := hr i e.symm; omega)⟩

/-- The buffer v holds the bytes l, with room for cap: nil, or a row at least 65536 long of which a head within l may be frozen. -/
def Buf (w : World) (B : Nat) (v : Value) (l : List UInt8) (cap : Nat) : Prop :=
  (v = .slice none 0 0 ∧ l = [] ∧ cap = 0) ∨
  ∃ g cur fz, v = .slice (some ⟨g, 0, none⟩) l.length cap ∧ B ≤ g ∧ w.heap[g]? = some (.cells cur 5 fz) ∧ fz.2 ≤ l.length ∧ l.length ≤ cap ∧ 65536 ≤ cap ∧ cap ≤ maxLen ∧ cur.size = cap ∧ cur.toList.take l.length = Lib.byteCells l

theorem Buf.kept {w w' : World} {B : Nat} {v : Value} {l : List UInt8} {cap : Nat} (h : Buf w B v l cap) (hg : ∀ g, B ≤ g → g < w.heap.size → w'.heap[g]? = w.heap[g]?) : Buf w' B v l cap := by
  rcases h with h | ⟨g, cur, fz, h1, h2, h3, r⟩
  · exact .inl h
  · exact .inr ⟨g, cur, fz, h1, h2, by rw [hg g h2 (Array.getElem?_eq_some_iff.1 h3).1]; exact h3, r⟩
theorem Buf.form {w : World} {B : Nat} {v : Value} {l : List UInt8} {cap : Nat} (h : Buf w B v l cap) : ∃ a, v = .slice a l.length cap := by
  rcases h with ⟨rfl, rfl, rfl⟩ | ⟨g, cur, fz, rfl, _⟩
  · exact ⟨none, rfl⟩
  · exact ⟨_, rfl⟩
theorem Buf.le {w : World} {B : Nat} {v : Value} {l : List UInt8} {cap : Nat} (h : Buf w B v l cap) : l.length ≤ cap ∧ cap ≤ 9223372036854775807 := by
  rcases h with ⟨rfl, rfl, rfl⟩ | ⟨g, cur, fz, _, _, _, _, h1, _, h2, _⟩
  · exact ⟨Nat.le_refl _, by omega⟩
  · exact ⟨h1, by unfold maxLen at h2; omega⟩

/-- A nameBlocks in block k: its builder's addr is p, it holds the bytes l and has room for cap. -/
def NB (w : World) (B k : Nat) (p : Value) (l : List UInt8) (cap : Nat) : Prop :=
  k < B ∧ B ≤ w.heap.size ∧ ∃ v, w.heap[k]? = some (.cells #[p, v] 46 (0, 0)) ∧ Buf w B v l cap

/-- p is nil or the builder's own address. -/
def Own (k : Nat) (p : Value) : Prop := p = .pointer none ∨ p = .pointer (some ⟨k, 0, none⟩)

theorem NB.drewN {w : World} {B k : Nat} {p : Value} {l : List UInt8} {cap : Nat} (n : Nat) (h : NB w B k p l cap) : NB (w.drewN n) B k p l cap := h
theorem NB.drew {w : World} {B k : Nat} {p : Value} {l : List UInt8} {cap : Nat} (h : NB w B k p l cap) : NB w.drew B k p l cap := h

set_option maxHeartbeats 400000 in
/-- (*strings.Builder).Len -/
theorem bld_len (k : Nat) (a : Option Addr) (n c : Nat) (w : World) (h : w.cell? ⟨k, 1, none⟩ = some (.slice a n c)) :
    Calls Try.prog 24 #[.pointer (some ⟨k, 0, none⟩)] w fun e w' => e = .returned (.int .i64 n) ∧ w = w' := by
  go_enter Try.func24, Try.ntmps24
  go_wp2
  go_ret
  exact ⟨rfl, rfl⟩

set_option maxHeartbeats 400000 in
/-- (*strings.Builder).Cap -/
theorem bld_cap (k : Nat) (a : Option Addr) (n c : Nat) (w : World) (h : w.cell? ⟨k, 1, none⟩ = some (.slice a n c)) :
    Calls Try.prog 25 #[.pointer (some ⟨k, 0, none⟩)] w fun e w' => e = .returned (.int .i64 c) ∧ w = w' := by
  go_enter Try.func25, Try.ntmps25
  go_wp2
  go_ret
  exact ⟨rfl, rfl⟩

set_option maxHeartbeats 1000000 in
set_option maxRecDepth 100000 in
/-- copyCheck at a builder that has been used: nothing turns. -/
theorem check_used (k : Nat) (w : World) (h0 : w.cell? ⟨k, 0, none⟩ = some (.pointer (some ⟨k, 0, none⟩))) :
    Calls Try.prog 30 #[.pointer (some ⟨k, 0, none⟩)] w fun e w' => e = .returned (.tuple #[]) ∧ w = w' := by
  obtain ⟨j, hj, _⟩ := Option.map_eq_some_iff.1 Try.size44
  have q := Lib.run_neq_ptr_same w ⟨k, 0, none⟩ Try.underlying42 hj
  go_enter Try.func30, Try.ntmps30
  go_wp2
  go_end0
  exact ⟨rfl, rfl⟩

set_option maxHeartbeats 1000000 in
set_option maxRecDepth 100000 in
/-- copyCheck at a fresh builder: it stores its own address. -/
theorem check_fresh (k : Nat) (w : World) (h0 : w.cell? ⟨k, 0, none⟩ = some (.pointer none)) (hsh : w.shape? k = some (46, 2)) (hfz : w.frozen? ⟨k, 0, none⟩ = false) :
    Calls Try.prog 30 #[.pointer (some ⟨k, 0, none⟩)] w fun e w' => e = .returned (.tuple #[]) ∧ w' = w.setCell ⟨k, 0, none⟩ (.pointer (some ⟨k, 0, none⟩)) := by
  obtain ⟨j, hj, hjs⟩ := Option.map_eq_some_iff.1 Try.size44
  have e1 := Lib.run_to_unsafe w ⟨k, 0, none⟩ Try.underlying42 Try.underlying65 hj (by rw [hjs]; decide) hsh (Nat.zero_lt_succ 1)
  have e2 : (callFunc 32 #[.pointer (some ⟨k, 0, none⟩)]).run Try.prog w = .ok (.value (.pointer (some ⟨k, 0, none⟩))) w := by
    rw [run_callFunc_extern Try.func32 (by kernel_rfl) (by kernel_rfl) (by kernel_rfl) (e := Extern.AbiNoEscape.same) (by kernel_rfl), Lib.run_noEscape]
    rfl
  have e3 := Lib.run_from_unsafe w ⟨k, 0, none⟩ Try.underlying65 Try.underlying42 hj hsh Try.lies44
  clear hj hjs
  go_enter Try.func30, Try.ntmps30
  go_wp2
  go_end0
  exact ⟨rfl, rfl⟩

/-- copyCheck. -/
theorem bld_check (B k : Nat) (p : Value) (l : List UInt8) (cap : Nat) (w : World) (h : NB w B k p l cap) (hp : Own k p) :
    Calls Try.prog 30 #[.pointer (some ⟨k, 0, none⟩)] w fun e w' => e = .returned (.tuple #[]) ∧ NB w' B k (.pointer (some ⟨k, 0, none⟩)) l cap ∧ Keeps B k w w' := by
  obtain ⟨hk, hB, v, hb, hbuf⟩ := h
  have c0 : w.cell? ⟨k, 0, none⟩ = some p := by rw [Lib.cell_of_heap hb]; rfl
  rcases hp with rfl | rfl
  · refine (check_fresh k w c0 (by simp [World.shape?, hb]) (Lib.frozen_of_heap hb 0)).mono ?_
    rintro e w' ⟨rfl, rfl⟩
    refine ⟨rfl, ⟨hk, by simpa using hB, v, by simp [World.setCell, Array.getElem?_modify, hb], hbuf.kept (fun g hg _ => Below.heap_setCell _ _ _ _ (by show g ≠ k; omega))⟩, (Keeps.refl _ _ _).setCell _ _⟩
  · refine (check_used k w c0).mono ?_
    rintro e w' ⟨rfl, rfl⟩
    exact ⟨rfl, ⟨hk, hB, v, hb, hbuf⟩, Keeps.refl _ _ _⟩

set_option maxHeartbeats 2000000 in
set_option maxRecDepth 1000000 in
/-- (*strings.Builder).grow AT A BUILDER WITHOUT A BUFFER: a new row of whatever bytes for its buffer, none of them its own yet. -/
theorem bld_grow (k n : Nat) (w : World) (hbk : w.heap[k]? = some (.cells #[.pointer (some ⟨k, 0, none⟩), .slice none 0 0] 46 (0, 0))) (hn : n ≤ 281474976710656) :
    Calls Try.prog 31 #[.pointer (some ⟨k, 0, none⟩), .int .i64 n] w fun e w' => e = .returned (.tuple #[]) ∧ ∃ (cs : Array Value) (m : Nat), n ≤ cs.size ∧ cs.size ≤ maxLen ∧
      w' = ((w.setCell ⟨k, 1, none⟩ (.slice (some ⟨w.heap.size, 0, none⟩) 0 cs.size)).alloc (.cells cs 5)).drewN m := by
  obtain ⟨cs, hrun, hle, hmax⟩ := Lib.run_makeNoZero (P := Try.prog) w.drew #[3] 30 5 Try.underlying30 n hn
  have hw : IntKind.i64.wrap (IntKind.i64.wrap 0 + (n : Int)) = n := by
    rw [IntKind.wrap_i64, IntKind.wrap_i64]
    omega
  have hcall : (callFunc 33 #[.int .i64 (n : Int)]).run Try.prog w.drew = .ok (.value (.slice (some ⟨w.drew.heap.size, 0, none⟩) n cs.size)) (w.drew.drew.drew.alloc (.cells cs 5)) := by
    rw [run_callFunc_extern Try.func33 (by kernel_rfl) (by kernel_rfl) (by kernel_rfl) (e := Extern.BytealgMakeNoZero.makeNoZero #[3] #[30]) (by kernel_rfl), hrun]
    rfl
  have hlt : k < w.heap.size := by
    rcases Nat.lt_or_ge k w.heap.size with h' | h'
    · exact h'
    · simp [Array.getElem?_eq_none h'] at hbk
  have c1 : w.cell? ⟨k, 1, none⟩ = some (.slice none 0 0) := by rw [Lib.cell_of_heap hbk]; rfl
  have c2 : (w.alloc (.cells cs 5)).cell? ⟨k, 1, none⟩ = some (.slice none 0 0) := by
    rw [Lib.cell_of_heap ((Lib.alloc_old w _ k hlt).trans hbk)]; rfl
  have f2 : (w.alloc (.cells cs 5)).frozen? ⟨k, 1, none⟩ = false := Lib.frozen_of_heap ((Lib.alloc_old w _ k hlt).trans hbk) 1
  have hcopy : ∀ W : World, (Builtin.copy_ #[30, 30] 3 #[.slice (some ⟨w.heap.size, 0, none⟩) 0 cs.size, .slice none 0 0]).run Try.prog W = .ok (goInt 0) W :=
    fun W => run_copy_none W 30 30 3 5 _ _ 0 cs.size 0 0 Try.underlying30 Try.size5 rfl
  clear hw hrun hbk
  go_enter Try.func31, Try.ntmps31
  go_wp2
  go_region
  all_goals go_wp2
  all_goals go_end0
  all_goals exact ⟨rfl, cs, 3, hle, hmax (by unfold maxLen; omega), rfl⟩

/-- .. and what it holds. -/
theorem bld_growNB (B k n : Nat) (w : World) (hk : k < B) (hB : B ≤ w.heap.size) (hbk : w.heap[k]? = some (.cells #[.pointer (some ⟨k, 0, none⟩), .slice none 0 0] 46 (0, 0))) (hn : n ≤ 281474976710656) (hn2 : 65536 ≤ n) :
    Calls Try.prog 31 #[.pointer (some ⟨k, 0, none⟩), .int .i64 n] w fun e w' => e = .returned (.tuple #[]) ∧ (∃ cap, n ≤ cap ∧ NB w' B k (.pointer (some ⟨k, 0, none⟩)) [] cap) ∧ Keeps B k w w' := by
  refine (bld_grow k n w hbk hn).mono ?_
  rintro e w' ⟨rfl, cs, m, h1, h2, rfl⟩
  refine ⟨rfl, ⟨cs.size, h1, ?_⟩, (((Keeps.refl B k w).setCell 1 _).alloc (by simpa using hB) _).drewN m⟩
  have hlt : k < w.heap.size := by omega
  refine NB.drewN m ⟨hk, by simp; omega, _, ?_, .inr ⟨w.heap.size, cs, (0, 0), rfl, hB, ?_, Nat.zero_le _, Nat.zero_le _, by omega, h2, rfl, by simp [Lib.byteCells]⟩⟩
  · rw [Below.heap_alloc _ _ _ (by simpa using hlt)]
    simp [World.setCell, Array.getElem?_modify, hbk]
  · have := heap_alloc_new (w.setCell ⟨k, 1, none⟩ (.slice (some ⟨w.heap.size, 0, none⟩) 0 cs.size)) (.cells cs 5)
    simpa using this

set_option maxHeartbeats 1000000 in
set_option maxRecDepth 100000 in
/-- (*strings.Builder).Grow at a builder that has not been written. -/
theorem bld_Grow (B k n : Nat) (w : World) (hk : k < B) (hB : B ≤ w.heap.size) (hbk : w.heap[k]? = some (.cells #[.pointer none, .slice none 0 0] 46 (0, 0))) (hn : n ≤ 281474976710656) (hn2 : 65536 ≤ n) :
    Calls Try.prog 27 #[.pointer (some ⟨k, 0, none⟩), .int .i64 n] w fun e w' => e = .returned (.tuple #[]) ∧ (∃ cap, n ≤ cap ∧ NB w' B k (.pointer (some ⟨k, 0, none⟩)) [] cap) ∧ Keeps B k w w' := by
  have N0 : NB w B k (.pointer none) [] 0 := ⟨hk, hB, _, hbk, .inl ⟨rfl, rfl, rfl⟩⟩
  go_enter Try.func27, Try.ntmps27
  go_wp2_with fail
  refine (bld_check B k _ [] 0 w N0 (.inl rfl)).mono ?_
  rintro e w1 ⟨rfl, N1, K1⟩
  clear N0 hbk
  obtain ⟨_, hB1, v, hb1, hbuf⟩ := N1
  obtain rfl : v = .slice none 0 0 := by
    rcases hbuf with ⟨rfl, _⟩ | ⟨g, cur, fz, _, _, _, _, _, h, _⟩
    · rfl
    · omega
  have c1 : w1.cell? ⟨k, 1, none⟩ = some (.slice none 0 0) := by rw [Lib.cell_of_heap hb1]; rfl
  have HB := hide hb1
  clear hb1 hbuf
  go_wp2_with fail
  go_region
  all_goals go_wp2_with fail
  refine (bld_growNB B k n w1.drew hk hB1 HB.out hn hn2).mono ?_
  rintro e w2 ⟨rfl, N2, K2⟩
  go_wp2_with fail
  go_end0
  exact ⟨rfl, N2, K1.drew.trans K2⟩

theorem Buf.room {w : World} {B : Nat} {v : Value} {l : List UInt8} {cap : Nat} (h : Buf w B v l cap) (s : ByteArray) (hr : l.length + s.size ≤ cap) (hB : B ≤ w.heap.size) :
    ∃ v' w', (Builtin.append_ #[30, 9] 30 #[v, .string s]).run Try.prog w = .ok v' w' ∧ Buf w' B v' (l ++ s.data.toList) cap ∧ w.heap.size ≤ w'.heap.size ∧ (∃ r, w.grownBy w' r ∧ ∀ i, r = some i → B ≤ i) := by
  obtain ⟨i0, hi, hz0, hz1, hz2⟩ := info_parts Try.info5
  rcases h with ⟨rfl, rfl, rfl⟩ | ⟨g, cur, fz, rfl, hg, hh, hfz, hlc, h64, hcm, hcs, htake⟩
  · have hs : s.size = 0 := by simp only [List.length_nil] at hr; omega
    obtain ⟨v', w', h1, h2, h3, h4⟩ := Lib.run_append_own_string (P := Try.prog) w B 30 9 30 5 i0 Try.underlying30 Try.underlying9 hi hz0 hz1 hz2 (.slice none 0 0) 0 [] (World.ownsRow_nil _ _ _ _) s (by unfold maxLen; omega) (by omega) hB
    have hv : v' = .slice none 0 0 := h4.2 ⟨rfl, hs⟩
    have hl : s.data.toList = [] := List.eq_nil_of_length_eq_zero (by rw [← Lib.size_eq]; exact hs)
    exact ⟨v', w', h1, .inl ⟨hv, by rw [hl]; rfl, rfl⟩, h3.size, none, h3, fun i hi => by cases hi⟩
  · have hr1 := Lib.run_append_room_stringF (P := Try.prog) w 30 9 30 5 i0 Try.underlying30 Try.underlying9 hi hz1 g l.length cap cur fz hh hfz s hr (by omega)
    have hL : (l ++ s.data.toList).length = l.length + s.size := by rw [List.length_append, ← Lib.size_eq]
    refine ⟨_, _, hr1, .inr ⟨g, _, fz, by rw [hL], hg, setRow_heap w g cur _ 5 _ hh, by omega, by omega, h64, hcm, ?_, ?_⟩, by simp, some g, ⟨rfl, rfl, rfl, by simp, fun k _ hk => setRow_other w g k _ (fun e => hk (by rw [e]))⟩, fun i hi => by cases hi; exact hg⟩
    · simp only [List.size_toArray, List.length_append, List.length_take, List.length_drop, Array.length_toList, Lib.strCells_length]
      omega
    · rw [htake, Lib.byteCells_append, ← Lib.strCells_eq, hL]
      have : (Lib.byteCells l ++ Lib.strCells s).length = l.length + s.size := by rw [List.length_append, Lib.byteCells_length, Lib.strCells_length]
      rw [← this]
      exact List.take_left

/-- 'append' by its run's equation. -/
theorem wpList_append_eq {P : Program} {ops : Array Oper} {rest : List Oper} {o : Oper} {a : Act} {Q : Exit → Act → World → Prop} (hgd : o.guard = none) (sl x : Operand) (t u : TypeId)
    (ho : o.op = .call { callee := .builtin .append, args := #[sl, x], argTypes := #[t, u] }) (v y : Value) (hs : a.eval sl = v) (hx : a.eval x = y) (v' : Value) (w w' : World)
    (hr : (Builtin.append_ #[t, u] o.type #[v, y]).run P w = .ok v' w') (h : wpList P ops Q rest (a.put o.dst v') w') : wpList P ops Q (o :: rest) a w := by
  refine wpList_plain hgd fun K hK => ?_
  unfold Oper.wp execOp
  simp only [ho, resolve, invoke, builtin, Sem.run_bind, Sem.run_pure, Result.andThen_ok, List.map_toArray, List.map_cons, List.map_nil, hs, hx, hr]
  exact hK _ _ h

set_option maxHeartbeats 1000000 in
set_option maxRecDepth 100000 in
/-- (*strings.Builder).WriteString where there is room. -/
theorem bld_write (B k : Nat) (p : Value) (l : List UInt8) (cap : Nat) (s : ByteArray) (w : World) (h : NB w B k p l cap) (hp : Own k p) (hr : l.length + s.size ≤ cap) :
    Calls Try.prog 28 #[.pointer (some ⟨k, 0, none⟩), .string s] w fun e w' => e = .returned (.tuple #[.int .i64 s.size, .nilIface]) ∧ NB w' B k (.pointer (some ⟨k, 0, none⟩)) (l ++ s.data.toList) cap ∧ Keeps B k w w' := by
  go_enter Try.func28, Try.ntmps28
  go_wp2_with fail
  refine (bld_check B k p l cap w h hp).mono ?_
  rintro e w1 ⟨rfl, N1, K1⟩
  clear h hp
  obtain ⟨hk, hB1, v, hb1, hbuf⟩ := N1
  obtain ⟨a, rfl⟩ := hbuf.form
  obtain ⟨v', w2, happ, hbuf2, hsz, r, hgr, hr2⟩ := hbuf.room s hr hB1
  have hb2 : w2.heap[k]? = some (.cells #[.pointer (some ⟨k, 0, none⟩), .slice a l.length cap] 46 (0, 0)) := by
    rw [hgr.block k (by omega) (fun e => by have := hr2 k e.symm; omega)]; exact hb1
  have K2 := K1.grown hgr hB1 hr2
  have c1 : w1.cell? ⟨k, 1, none⟩ = some (.slice a l.length cap) := by rw [Lib.cell_of_heap hb1]; rfl
  have d1 : w2.cell? ⟨k, 1, none⟩ = some (.slice a l.length cap) := by rw [Lib.cell_of_heap hb2]; rfl
  have f1 : w2.frozen? ⟨k, 1, none⟩ = false := Lib.frozen_of_heap hb2 1
  obtain ⟨a', rfl⟩ := hbuf2.form
  have N3 : NB (w2.setCell ⟨k, 1, none⟩ (.slice a' (l ++ s.data.toList).length cap)) B k (.pointer (some ⟨k, 0, none⟩)) (l ++ s.data.toList) cap :=
    ⟨hk, by simp; omega, _, by simp [World.setCell, Array.getElem?_modify, hb2], hbuf2.kept (fun g hg _ => Below.heap_setCell _ _ _ _ (by show g ≠ k; omega))⟩
  have HN := hide N3
  have HK := hide (K2.setCell 1 (.slice a' (l ++ s.data.toList).length cap))
  clear hb1 hbuf hbuf2 hgr hr2 hb2 K1 K2 N3 hsz
  generalize (l ++ s.data.toList).length = L at *
  go_wp2_with (at_builtin; refine wpList_append_eq (by rfl) (.tmp 12) (.tmp 13) 30 9 (by rfl) (.slice a l.length cap) (.string s) (by rfl) (by rfl) _ _ _ happ ?_)
  go_ret2
  exact ⟨rfl, HN.out, HK.out⟩

set_option maxHeartbeats 1000000 in
set_option maxRecDepth 100000 in
/-- (*strings.Builder).String -/
theorem bld_string (B k : Nat) (p : Value) (l : List UInt8) (cap : Nat) (w : World) (h : NB w B k p l cap) :
    Calls Try.prog 23 #[.pointer (some ⟨k, 0, none⟩)] w fun e w' => e = .returned (.string ⟨l.toArray⟩) ∧ NB w' B k p l cap ∧ Keeps B k w w' := by
  obtain ⟨hk, hB, v, hb, hbuf⟩ := h
  by_cases hl : l = []
  · subst hl
    obtain ⟨a, rfl⟩ := hbuf.form
    have hUS : ∀ (W : World) (q : Option Addr), (Builtin.unsafeString_ #[62, 3] 9 #[.pointer q, .int .i64 0]).run Try.prog W = .ok (.string .empty) W := fun W q => Lib.run_unsafeString_none W _ _ _ q
    obtain ⟨q, hSD⟩ : ∃ q, ∀ W : World, (Builtin.unsafeSliceData_ #[30] 62 #[.slice a 0 cap]).run Try.prog W = .ok (.pointer q) W := by
      rcases hbuf with ⟨h1, _, _⟩ | ⟨g, cur, fz, h1, _, _, _, _, h64, _⟩
      · injection h1 with h1 _ h3
        subst h1
        exact ⟨none, fun W => rfl⟩
      · injection h1 with h1 _ h3
        subst h1
        exact ⟨_, fun W => Lib.run_unsafeSliceData_row W _ _ _ _ _ (by omega)⟩
    have c1 : w.cell? ⟨k, 1, none⟩ = some (.slice a 0 cap) := by rw [Lib.cell_of_heap hb]; rfl
    have HN := hide (show NB w B k p [] cap from ⟨hk, hB, _, hb, hbuf⟩)
    clear hb hbuf
    go_enter Try.func23, Try.ntmps23
    go_wp2
    go_region
    all_goals go_wp2
    all_goals go_ret
    all_goals exact ⟨rfl, HN.out, (Keeps.refl _ _ _).drew⟩
  · obtain ⟨g, cur, fz, rfl, hg, hh, hfz, hlc, h64, hcm, hcs, htake⟩ : ∃ g cur fz, v = .slice (some ⟨g, 0, none⟩) l.length cap ∧ B ≤ g ∧ w.heap[g]? = some (.cells cur 5 fz) ∧ fz.2 ≤ l.length ∧ l.length ≤ cap ∧ 65536 ≤ cap ∧ cap ≤ maxLen ∧ cur.size = cap ∧ cur.toList.take l.length = Lib.byteCells l := by
      rcases hbuf with ⟨_, h1, _⟩ | h1
      · exact absurd h1 hl
      · exact h1
    have hcells : ∀ j x, l[j]? = some x → w.cell? ((⟨g, 0, none⟩ : Addr).add j) = some (.int .u8 x.toNat) := by
      intro j x hx
      rw [show (⟨g, 0, none⟩ : Addr).add j = ⟨g, j, none⟩ from by unfold Addr.add; split <;> simp_all, Lib.cell_of_heap hh]
      have h1 : (Lib.byteCells l)[j]? = some (.int .u8 x.toNat) := by simp [Lib.byteCells, hx]
      rw [← htake, List.getElem?_take] at h1
      split at h1
      · simpa using h1
      · cases h1
    have hSD : (Builtin.unsafeSliceData_ #[30] 62 #[.slice (some ⟨g, 0, none⟩) l.length cap]).run Try.prog w.drew = .ok (.pointer (some ⟨g, 0, none⟩)) w.drew :=
      Lib.run_unsafeSliceData_row _ _ _ _ _ _ (by omega)
    have hUS : (Builtin.unsafeString_ #[62, 3] 9 #[.pointer (some ⟨g, 0, none⟩), .int .i64 l.length]).run Try.prog w.drew = .ok (.string ⟨l.toArray⟩) (w.drew.freeze ⟨g, 0, none⟩ l.length) := by
      refine Lib.run_unsafeString_row w.drew 62 3 9 5 Try.underlying62 Try.cells5 g cur.size (by have hg' : w.drew.heap[g]? = some (.cells cur 5 fz) := hh; simp [World.shape?, hg']) l hl (by omega) (by unfold maxLen at hcm; omega) ?_
      exact hcells
    have c1 : w.drew.cell? ⟨k, 1, none⟩ = some (.slice (some ⟨g, 0, none⟩) l.length cap) := by
      have : w.drew.heap[k]? = _ := hb
      rw [Lib.cell_of_heap this]; rfl
    have hl0 : l.length ≠ 0 := by simpa using hl
    have hother : ∀ i, i ≠ g → (w.drew.freeze ⟨g, 0, none⟩ l.length).heap[i]? = w.heap[i]? := fun i hi => by
      unfold World.freeze
      rw [if_neg hl0]
      simp only [Array.getElem?_modify]
      rw [if_neg (fun e => hi e.symm)]
      rfl
    have hsz : (w.drew.freeze ⟨g, 0, none⟩ l.length).heap.size = w.heap.size := by
      unfold World.freeze
      rw [if_neg hl0]
      simp
    have hN : NB (w.drew.freeze ⟨g, 0, none⟩ l.length) B k p l cap := by
      refine ⟨hk, by omega, _, by rw [hother k (by omega)]; exact hb, ?_⟩
      obtain ⟨lo, hi⟩ := fz
      refine .inr ⟨g, cur, (if lo == hi then (0, 0 + l.length) else (min lo 0, max hi (0 + l.length))), rfl, hg, ?_, ?_, hlc, h64, hcm, hcs, htake⟩
      · unfold World.freeze
        rw [if_neg hl0]
        have hh' : w.drew.heap[g]? = some (.cells cur 5 (lo, hi)) := hh
        simp [Array.getElem?_modify, hh']
      · simp only at hfz
        split <;> simp <;> omega
    have hK : Keeps B k w (w.drew.freeze ⟨g, 0, none⟩ l.length) := by
      refine ⟨?_, ?_, ?_, by omega, fun i hi _ => hother i (by omega)⟩
      · unfold World.freeze; rw [if_neg hl0]; rfl
      · unfold World.freeze; rw [if_neg hl0]; rfl
      · unfold World.freeze; rw [if_neg hl0]; rfl
    have HN := hide hN
    have HK := hide hK
    clear hN hK hother hsz hcells hh hb htake hbuf
    go_enter Try.func23, Try.ntmps23
    go_wp2
    go_region
    all_goals go_wp2
    all_goals go_ret
    all_goals exact ⟨rfl, HN.out, HK.out⟩
end Go.Proofs.Qxb6605703a
