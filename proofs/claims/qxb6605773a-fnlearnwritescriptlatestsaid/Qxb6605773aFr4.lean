/- The frontier in memory; index, other, learnWrite, ZZlearnWrite, ZZfrontierWroteAt. -/
import Derived.Test.Qxb6605773aRows
import Derived.Test.Qxb6605773aBase
import Derived.Test.Qxb6605773aCloneInts
import Derived.Test.Qxb6605773aFr1
import Derived.Test.Qxb6605773aFr2
import Derived.Test.Qxb6605773aFr3
import Derived.WalkKit
import Derived.WalkSpells
import Derived.WalkLawsBesides
import Derived.Deep.QuietTactic
import Derived.BigQuiet
namespace Go.Proofs.Qxb6605773a
open Go.RowKit

/-- The frontier in memory: its struct in F, the sites' names in N, what each wrote last in Wr. -/
structure FS (wr : World) (F N Wr ns : Nat) (me : Int) (ss : Nat → ByteArray) : Prop where
  sites : wr.cell? ⟨F, 0, none⟩ = some (.slice (some ⟨N, 0, none⟩) ns ns)
  me : wr.cell? ⟨F, 2, none⟩ = some (.int .i64 me)
  wrote : wr.cell? ⟨F, 3, none⟩ = some (.slice (some ⟨Wr, 0, none⟩) ns ns)
  names : ∀ i, i < ns → wr.cell? ⟨N, i, none⟩ = some (.string (ss i))
  lt : F < wr.heap.size ∧ N < wr.heap.size ∧ Wr < wr.heap.size
  ne : Wr ≠ F ∧ Wr ≠ N
  fro : ∀ i, wr.frozen? ⟨Wr, i, none⟩ = false

/-- One entry of 'wrote'. -/
def Ent (wr : World) (Wr j : Nat) (x : Int × Bool × List Int) : Prop :=
  ∃ v, wr.cell? ⟨Wr, j * 2, none⟩ = some (.int .i64 x.1) ∧ wr.cell? ⟨Wr, j * 2 + 1, none⟩ = some v ∧ Rd wr Wr v x.2.1 x.2.2

structure FRel (w wr : World) (F N Wr ns : Nat) (me : Int) (ss : Nat → ByteArray) (ent : Nat → Int × Bool × List Int) : Prop where
  grown : w.grownBy wr none
  base : w.heap.size ≤ Wr
  fs : FS wr F N Wr ns me ss
  ents : ∀ j, j < ns → Ent wr Wr j (ent j)

theorem fro_grown {w w' : World} {b : Nat} (hb : b < w.heap.size) (g : w.grownBy w' none) (i : Nat) : w'.frozen? ⟨b, i, none⟩ = w.frozen? ⟨b, i, none⟩ := by
  simp [World.frozen?, g.block b hb (by simp)]

theorem FS.kept {w w' : World} {F N Wr ns : Nat} {me : Int} {ss : Nat → ByteArray} (h : FS w F N Wr ns me ss) (g : w.grownBy w' none) : FS w' F N Wr ns me ss :=
  ⟨g.cell h.sites (by simp), g.cell h.me (by simp), g.cell h.wrote (by simp), fun i hi => g.cell (h.names i hi) (by simp),
   ⟨Nat.lt_of_lt_of_le h.lt.1 g.size, Nat.lt_of_lt_of_le h.lt.2.1 g.size, Nat.lt_of_lt_of_le h.lt.2.2 g.size⟩, h.ne, fun i => by rw [fro_grown h.lt.2.2 g]; exact h.fro i⟩

theorem FRel.kept {w wr w' : World} {F N Wr ns : Nat} {me : Int} {ss : Nat → ByteArray} {ent : Nat → Int × Bool × List Int} (h : FRel w wr F N Wr ns me ss ent) (g : wr.grownBy w' none) : FRel w w' F N Wr ns me ss ent :=
  ⟨grown_trans h.grown g, h.base, h.fs.kept g, fun j hj => by
    obtain ⟨v, h1, h2, h3⟩ := h.ents j hj
    exact ⟨v, g.cell h1 (by simp), g.cell h2 (by simp), h3.grown g (by simp)⟩⟩

theorem grown_dN (w : World) (n : Nat) : w.grownBy (w.drewN n) none := ⟨rfl, rfl, rfl, Nat.le_refl _, fun _ _ _ => rfl⟩

theorem FRel.set {w wr : World} {F N Wr ns : Nat} {me : Int} {ss : Nat → ByteArray} {ent ent' : Nat → Int × Bool × List Int} (h : FRel w wr F N Wr ns me ss ent) (k : Nat) (hk : k < ns) (t : Int) (pv : Value) (nl : Bool) (zs : List Int)
    (hr : Rd wr Wr pv nl zs) (h1 : ent' k = (t, nl, zs)) (h2 : ∀ j, j < ns → j ≠ k → ent' j = ent j) :
    FRel w ((wr.setCell ⟨Wr, k * 2, none⟩ (.int .i64 t)).setCell ⟨Wr, k * 2 + 1, none⟩ pv) F N Wr ns me ss ent' := by
  have s := grown_trans (set_row wr Wr (k * 2) (.int .i64 t)) (set_row _ Wr (k * 2 + 1) pv)
  obtain ⟨nF, nN⟩ := h.fs.ne
  have fr : ∀ i, ((wr.setCell ⟨Wr, k * 2, none⟩ (.int .i64 t)).setCell ⟨Wr, k * 2 + 1, none⟩ pv).frozen? ⟨Wr, i, none⟩ = false := fun i => by simpa using h.fs.fro i
  refine ⟨set_below (set_below h.grown h.base _ _) h.base _ _, h.base, ⟨s.cell h.fs.sites (by simpa using fun e => nF e.symm), s.cell h.fs.me (by simpa using fun e => nF e.symm), s.cell h.fs.wrote (by simpa using fun e => nF e.symm),
    fun i hi => s.cell (h.fs.names i hi) (by simpa using fun e => nN e.symm), by simpa using h.fs.lt, h.fs.ne, fr⟩, fun j hj => ?_⟩
  obtain ⟨v, c1, c2, c3⟩ := h.ents j hj
  by_cases e : j = k
  · subst e
    rw [h1]
    refine ⟨pv, ?_, ?_, hr.grown s (fun i e => by injection e with e; exact e.symm)⟩
    · rw [cell_far _ _ _ _ _ (by omega)]
      exact World.cell?_setCell_same _ _ _ c1
    · exact World.cell?_setCell_same _ _ _ ((cell_far _ _ _ _ _ (by omega)).trans c2)
  · rw [h2 j hj e]
    refine ⟨v, ?_, ?_, c3.grown s (fun i e => by injection e with e; exact e.symm)⟩
    · rw [cell_far _ _ _ _ _ (by omega), cell_far _ _ _ _ _ (by omega)]; exact c1
    · rw [cell_far _ _ _ _ _ (by omega), cell_far _ _ _ _ _ (by omega)]; exact c2

theorem bytes_ne {x y : ByteArray} (h : x ≠ y) : (x.toList == y.toList) = false := by
  rw [ByteArray.toList_eq, ByteArray.toList_eq]
  refine beq_eq_false_iff_ne.2 fun e => h ?_
  cases x; cases y
  exact congrArg ByteArray.mk (Array.toList_inj.1 e)

theorem less_irrefl : ∀ x : List UInt8, Op.bytesLess x x = false
  | [] => rfl
  | a :: x => by simp [Op.bytesLess, less_irrefl x]
theorem less_trans : ∀ x y z : List UInt8, Op.bytesLess x y = true → Op.bytesLess y z = true → Op.bytesLess x z = true
  | _, [], _, h, _ => by simp [Op.bytesLess] at h
  | _, _ :: _, [], _, h => by simp [Op.bytesLess] at h
  | [], _ :: _, _ :: _, _, _ => rfl
  | a :: x, b :: y, c :: z, h1, h2 => by
    simp only [Op.bytesLess, Bool.or_eq_true, Bool.and_eq_true, decide_eq_true_eq, beq_iff_eq] at h1 h2 ⊢
    rcases h1 with h1 | ⟨rfl, h1⟩
    · rcases h2 with h2 | ⟨rfl, h2⟩
      · left; exact UInt8.lt_trans h1 h2
      · left; exact h1
    · rcases h2 with h2 | ⟨rfl, h2⟩
      · left; exact h2
      · right; exact ⟨rfl, less_trans x y z h1 h2⟩

def Distinct (ns : Nat) (ss : Nat → ByteArray) : Prop := ∀ i j, i < ns → j < ns → ss i = ss j → i = j
theorem Sorted.less {ns : Nat} {ss : Nat → ByteArray} (h : Sorted ns ss) (i : Nat) : ∀ d, i + d + 1 < ns → Op.bytesLess (ss i).toList (ss (i + d + 1)).toList = true
  | 0, hd => h i hd
  | d + 1, hd => less_trans _ _ _ (h.less i d (by omega)) (h (i + d + 1) hd)
theorem Sorted.distinct {ns : Nat} {ss : Nat → ByteArray} (h : Sorted ns ss) : Distinct ns ss := fun i j hi hj e => by
  rcases Nat.lt_trichotomy i j with l | l | l
  · have := h.less i (j - i - 1) (by omega)
    rw [show i + (j - i - 1) + 1 = j by omega, e, less_irrefl] at this
    exact absurd this (by simp)
  · exact l
  · have := h.less j (i - j - 1) (by omega)
    rw [show j + (i - j - 1) + 1 = i by omega, e, less_irrefl] at this
    exact absurd this (by simp)

/-- Where the site stands, or -1. -/
def Found (ns : Nat) (ss : Nat → ByteArray) (site : ByteArray) (r : Int) : Prop := (∃ k : Nat, k < ns ∧ r = k ∧ ss k = site) ∨ (r = -1 ∧ ∀ i, i < ns → ss i ≠ site)
def Index (ns : Nat) (ss : Nat → ByteArray) (site : ByteArray) (w : World) (e : Ending) (w' : World) : Prop := ∃ r : Int, e = .returned (.int .i64 r) ∧ Found ns ss site r ∧ w = w'

set_option maxRecDepth 100000 in
set_option maxHeartbeats 400000 in
/-- (*frontier).index -/
theorem index (w : World) (F N Wr ns : Nat) (me : Int) (ss : Nat → ByteArray) (site : ByteArray) (h : FS w F N Wr ns me ss) (hns : ns ≤ 4096) :
    Calls Try.prog 44 #[.pointer (some ⟨F, 0, none⟩), .string site] w fun e w' => Index ns ss site w e w' := by
  have c0 := h.sites
  have HN := hide h.names
  clear h
  go_enter Try.func44, Try.ntmps44
  go_wp2_with fail
  go_loopw [11] (fun i wr => ∃ k : Nat, k ≤ ns ∧ i = .int .i64 k ∧ Hid (∀ i, i < k → ss i ≠ site) ∧ w = wr) (fun i _ => ns - (intOf i).toNat)
  case atStart => exact ⟨0, Nat.zero_le _, rfl, fun i hi => absurd hi (by omega), rfl⟩
  case round =>
    obtain ⟨k, hk, rfl, HS, rfl⟩ := hrel
    by_cases hlt : k < ns
    · have r0 := HN.out k hlt
      by_cases he : ss k = site
      · clear HS HN
        rw [he] at r0
        go_wp2_with fail
        go_ret
        exact ⟨k, rfl, Or.inl ⟨k, hlt, rfl, he⟩, rfl⟩
      · have HS2 : Hid (∀ i, i < k + 1 → ss i ≠ site) := all_succ HS.out he
        have hb := bytes_ne he
        clear HS HN he
        generalize ss k = x at *
        go_wp2_with fail
        go_roundw
        case rel => exact ⟨k + 1, by omega, by go_num, HS2, by trivial⟩
        case measure => simp [intOf]; omega
    · go_wp2_with fail
      go_ret
      exact ⟨-1, rfl, Or.inr ⟨rfl, fun i hi => HS.out i (by omega)⟩, rfl⟩

/-- Where the site stands, if that is not me; or -1. -/
def Other (ns : Nat) (ss : Nat → ByteArray) (me : Int) (site : ByteArray) (w : World) (e : Ending) (w' : World) : Prop :=
  ∃ r : Int, e = .returned (.int .i64 r) ∧ ((∃ k : Nat, k < ns ∧ r = k ∧ ss k = site ∧ (k : Int) ≠ me) ∨ (r = -1 ∧ ∀ i : Nat, i < ns → ss i = site → (i : Int) = me)) ∧ w = w'

set_option maxRecDepth 100000 in
set_option maxHeartbeats 400000 in
/-- (*frontier).other -/
theorem other (w : World) (F N Wr ns : Nat) (me : Int) (ss : Nat → ByteArray) (site : ByteArray) (h : FS w F N Wr ns me ss) (hns : ns ≤ 4096) (D : Distinct ns ss) (hs : 0 ≤ me) :
    Calls Try.prog 41 #[.pointer (some ⟨F, 0, none⟩), .string site] w fun e w' => Other ns ss me site w e w' := by
  have c0 := h.me
  have HD := hide D
  have H := hide h
  clear h D
  go_enter Try.func41, Try.ntmps41
  go_wp2_with fail
  refine (index _ F N Wr ns me ss site H.out hns).mono ?_
  rintro e w' ⟨r, rfl, hf, rfl⟩
  rcases hf with ⟨k, hk, rfl, he⟩ | ⟨rfl, hn⟩
  · by_cases hks : (k : Int) = me
    · have hks' : ((k : Int) != me) = false := by simpa using hks
      go_wp2_with fail
      go_ret
      exact ⟨-1, rfl, Or.inr ⟨rfl, fun i hi e => by rw [HD.out i k hi hk (e.trans he.symm)]; exact hks⟩, rfl⟩
    · have hks' : ((k : Int) != me) = true := by simpa using hks
      go_wp2_with fail
      go_ret
      exact ⟨k, rfl, Or.inl ⟨k, hk, rfl, he, hks⟩, rfl⟩
  · have hns' := hide hn
    have hm : ((-1 : Int) != me) = true := by simp; omega
    clear hn
    go_wp2_with fail
    go_ret
    exact ⟨-1, rfl, Or.inr ⟨rfl, fun i hi e => absurd e (hns'.out i hi)⟩, rfl⟩

/-- The entries behind a write: those of the write's site, if that is not the frontier's own, are now the write's. -/
def learnt (ss : Nat → ByteArray) (me : Int) (site : ByteArray) (x : Int × Bool × List Int) (ent : Nat → Int × Bool × List Int) (j : Nat) : Int × Bool × List Int :=
  if ss j = site ∧ (j : Int) ≠ me then x else ent j

set_option maxRecDepth 100000 in
set_option maxHeartbeats 400000 in
/-- (*frontier).learnWrite -/
theorem learnWrite (w0 w : World) (F N Wr ns : Nat) (me : Int) (ss : Nat → ByteArray) (ent : Nat → Int × Bool × List Int) (key site : ByteArray) (op delta t prev : Int) (va : Option Addr) (vn vc : Nat) (pa : Option Addr) (pn pc : Nat) (nl : Bool) (zs : List Int)
    (h : FRel w0 w F N Wr ns me ss ent) (hns : ns ≤ 4096) (D : Distinct ns ss) (hs : 0 ≤ me) (hr : Rd w Wr (.slice pa pn pc) nl zs) :
    Calls Try.prog 37 #[.pointer (some ⟨F, 0, none⟩), .agg #[.string key, .int .i64 op, .slice va vn vc, .int .i64 delta, .int .i64 t, .string site, .int .i64 prev, .slice pa pn pc]] w
      fun e w' => e = .returned (.tuple #[]) ∧ FRel w0 w' F N Wr ns me ss (learnt ss me site (t, nl, zs) ent) := by
  have HD := hide D
  have H := hide h
  have HR := hide hr
  clear h D hr
  go_enter Try.func37, Try.ntmps37
  go_wp2_with fail
  have K := World.grownBy_alloc w (Obj.cells #[.string key, .int .i64 op, .slice va vn vc, .int .i64 delta, .int .i64 t, .string site, .int .i64 prev, .slice pa pn pc] 68) none
  have H1 := hide (H.out.kept K)
  have HR1 := hide (HR.out.grown K (by simp))
  have b4 : (w.alloc (Obj.cells #[.string key, .int .i64 op, .slice va vn vc, .int .i64 delta, .int .i64 t, .string site, .int .i64 prev, .slice pa pn pc] 68)).cell? ⟨w.heap.size, 4, none⟩ = some (.int .i64 t) := by simp
  have b7 : (w.alloc (Obj.cells #[.string key, .int .i64 op, .slice va vn vc, .int .i64 delta, .int .i64 t, .string site, .int .i64 prev, .slice pa pn pc] 68)).cell? ⟨w.heap.size, 7, none⟩ = some (.slice pa pn pc) := by simp
  clear H HR K
  generalize w.alloc (Obj.cells #[.string key, .int .i64 op, .slice va vn vc, .int .i64 delta, .int .i64 t, .string site, .int .i64 prev, .slice pa pn pc] 68) = W at *
  generalize w.heap.size = B at *
  refine (other _ F N Wr ns me ss site H1.out.fs hns HD.out hs).mono ?_
  rintro e w' ⟨r, rfl, hf, rfl⟩
  rcases hf with ⟨k, hk, rfl, he, hne⟩ | ⟨rfl, hn⟩
  · have j0 : (0 : Int) ≤ (k : Int) := by omega
    have j1 : (k : Int) < (ns : Int) := by omega
    have c3 := H1.out.fs.wrote
    obtain ⟨v0, e0, e1, _⟩ := H1.out.ents k hk
    have z0 := H1.out.fs.fro (k * 2)
    have z1 := H1.out.fs.fro (k * 2 + 1)
    have H2 := hide ((H1.out.kept (w' := W.drew) ⟨rfl, rfl, rfl, Nat.le_refl _, fun _ _ _ => rfl⟩).set (ent' := learnt ss me site (t, nl, zs) ent) k hk t (.slice pa pn pc) nl zs HR1.out (by rw [learnt, if_pos ⟨he, hne⟩]) (fun j hj hjk => by
      rw [learnt, if_neg]
      exact fun ⟨h1, _⟩ => hjk (HD.out j k hj hk (h1.trans he.symm))))
    clear H1 HR1 HD he hne hk
    go_wp2_with fail
    go_region
    go_end0
    exact ⟨rfl, H2.out⟩
  · have H2 : Hid (FRel w0 W F N Wr ns me ss (learnt ss me site (t, nl, zs) ent)) := by
      have h := H1.out
      refine ⟨h.grown, h.base, h.fs, fun j hj => ?_⟩
      rw [learnt, if_neg (fun ⟨h1, h2⟩ => h2 (hn j hj h1))]
      exact h.ents j hj
    clear H1 HR1 HD hn
    go_wp2_with fail
    go_end0
    exact ⟨rfl, H2.out⟩

set_option maxRecDepth 100000 in
set_option maxHeartbeats 400000 in
/-- ZZlearnWrite -/
theorem zzLearn (w0 w : World) (F N Wr ns : Nat) (me : Int) (ss : Nat → ByteArray) (ent : Nat → Int × Bool × List Int) (key site : ByteArray) (op delta t prev : Int) (va : Option Addr) (vn vc : Nat) (pa : Option Addr) (pn pc : Nat) (nl : Bool) (zs : List Int)
    (h : FRel w0 w F N Wr ns me ss ent) (hns : ns ≤ 4096) (D : Distinct ns ss) (hs : 0 ≤ me) (hr : Rd w Wr (.slice pa pn pc) nl zs) :
    Calls Try.prog 24 #[.pointer (some ⟨F, 0, none⟩), .agg #[.string key, .int .i64 op, .slice va vn vc, .int .i64 delta, .int .i64 t, .string site, .int .i64 prev, .slice pa pn pc]] w
      fun e w' => e = .returned (.tuple #[]) ∧ FRel w0 w' F N Wr ns me ss (learnt ss me site (t, nl, zs) ent) := by
  have K := World.grownBy_alloc w (Obj.cells #[.string key, .int .i64 op, .slice va vn vc, .int .i64 delta, .int .i64 t, .string site, .int .i64 prev, .slice pa pn pc] 68) none
  have H := hide (h.kept K)
  have HR := hide (hr.grown K (by simp))
  have HD := hide D
  clear h hr K D
  go_enter Try.func24, Try.ntmps24
  go_wp2_with fail
  refine (learnWrite w0 _ F N Wr ns me ss ent key site op delta t prev va vn vc pa pn pc nl zs H.out hns HD.out hs HR.out).mono ?_
  rintro e w' ⟨rfl, h'⟩
  have H' := hide h'
  clear h'
  go_wp2_with fail
  go_end0
  exact ⟨rfl, H'.out⟩

set_option maxRecDepth 100000 in
set_option maxHeartbeats 400000 in
/-- ZZfrontierWroteAt -/
theorem wroteAt (w : World) (F Wr ns j : Nat) (x : Int) (v : Value) (h3 : w.cell? ⟨F, 3, none⟩ = some (.slice (some ⟨Wr, 0, none⟩) ns ns)) (hj : j < ns) (h0 : w.cell? ⟨Wr, j * 2, none⟩ = some (.int .i64 x)) (h1 : w.cell? ⟨Wr, j * 2 + 1, none⟩ = some v) :
    Calls Try.prog 27 #[.pointer (some ⟨F, 0, none⟩), .int .i64 j] w fun e w' => e = .returned (.tuple #[.int .i64 x, v]) ∧ ∃ n, w' = w.drewN n := by
  have j0 : (0 : Int) ≤ (j : Int) := by omega
  have j1 : (j : Int) < (ns : Int) := by omega
  go_enter Try.func27, Try.ntmps27
  go_wp2_with fail
  go_quiet (fail)
  go_wp2_with fail
  exact bodyPost_ret (v := .tuple #[.int .i64 x, v]) (by simp [results, go_sem]) rfl ⟨rfl, _, rfl⟩

set_option maxRecDepth 100000 in
set_option maxHeartbeats 400000 in
/-- ZZnewFrontier -/
theorem newFrontier (w : World) (N Wr ns : Nat) (me : Int) :
    Calls Try.prog 22 #[.slice (some ⟨N, 0, none⟩) ns ns, .int .i64 me, .slice (some ⟨Wr, 0, none⟩) ns ns] w fun e w' => e = .returned (.pointer (some ⟨w.heap.size, 0, none⟩)) ∧ w.grownBy w' none ∧ w.heap.size < w'.heap.size ∧
      w'.cell? ⟨w.heap.size, 0, none⟩ = some (.slice (some ⟨N, 0, none⟩) ns ns) ∧ w'.cell? ⟨w.heap.size, 2, none⟩ = some (.int .i64 me) ∧ w'.cell? ⟨w.heap.size, 3, none⟩ = some (.slice (some ⟨Wr, 0, none⟩) ns ns) := by
  go_enter Try.func22, Try.ntmps22
  go_wp2_with fail
  go_ret
  exact ⟨rfl, World.grownBy_alloc _ _ _, by simp, by simp, by simp, by simp⟩
end Go.Proofs.Qxb6605773a
