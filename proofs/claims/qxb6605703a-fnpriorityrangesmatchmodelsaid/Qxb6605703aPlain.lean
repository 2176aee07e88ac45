/- Plain: what a wordRange becomes. No Go here. -/
namespace Go.Proofs.Qxb6605703a

structure WR where
  first : Nat
  least : Nat
  most : Nat
  step : Nat
  seen : Bool

def WR.zero : WR := ⟨0, 0, 0, 0, false⟩
def WR.add (q : WR) (x : Nat) : WR :=
  ⟨if q.seen then q.first else x, if q.seen then min q.least x else x, if q.seen then max q.most x else x, if q.seen then Nat.gcd q.step (max x q.first - min x q.first) else 0, true⟩
/-- All numbers fit a uint64. -/
structure WR.Ok (q : WR) : Prop where
  f : q.first < 18446744073709551616
  l : q.least < 18446744073709551616
  m : q.most < 18446744073709551616
  s : q.step < 18446744073709551616

theorem WR.zero_ok : WR.zero.Ok := ⟨by simp [WR.zero], by simp [WR.zero], by simp [WR.zero], by simp [WR.zero]⟩

theorem gcd_lt {a b B : Nat} (ha : a < B) (hb : b < B) : Nat.gcd a b < B := by
  by_cases h : a = 0
  · subst h; simpa using hb
  · exact Nat.lt_of_le_of_lt (Nat.gcd_le_left b (by omega)) ha

theorem WR.add_ok {q : WR} {x : Nat} (h : q.Ok) (hx : x < 18446744073709551616) : (q.add x).Ok := by
  obtain ⟨h1, h2, h3, h4⟩ := h
  unfold WR.add
  cases hs : q.seen with
  | false => exact ⟨by simpa using hx, by simpa using hx, by simpa using hx, by simp⟩
  | true =>
    refine ⟨by simpa using h1, ?_, ?_, ?_⟩
    · simp only [if_true]; omega
    · simp only [if_true]; omega
    · simp only [if_true]; exact gcd_lt h4 (by omega)

/-- The range after f 0, .., f (k-1) have been added, in this order. -/
def WR.run (f : Nat → Nat) : Nat → WR
  | 0 => WR.zero
  | k + 1 => (WR.run f k).add (f k)

theorem WR.run_ok {f : Nat → Nat} (hf : ∀ i, f i < 18446744073709551616) : ∀ k, (WR.run f k).Ok
  | 0 => WR.zero_ok
  | k + 1 => WR.add_ok (WR.run_ok hf k) (hf k)

theorem dvd_dist (d a b : Nat) : d ∣ max a b - min a b ↔ (d : Int) ∣ (a : Int) - (b : Int) := by
  rcases Nat.le_total a b with h | h
  · rw [show max a b - min a b = b - a from by omega, ← Int.natCast_dvd_natCast, show ((b - a : Nat) : Int) = -((a : Int) - (b : Int)) from by omega, Int.dvd_neg]
  · rw [show max a b - min a b = a - b from by omega, ← Int.natCast_dvd_natCast, show ((a - b : Nat) : Int) = (a : Int) - (b : Int) from by omega]

/-- What is known of a range after k + 1 words. -/
structure WR.Of (q : WR) (f : Nat → Nat) (n : Nat) : Prop where
  seen : q.seen = true
  first : q.first = f 0
  lo : ∀ j, j < n → q.least ≤ f j
  loAt : ∃ j, j < n ∧ f j = q.least
  hi : ∀ j, j < n → f j ≤ q.most
  hiAt : ∃ j, j < n ∧ f j = q.most
  step : ∀ d : Nat, d ∣ q.step ↔ ∀ j, j < n → (d : Int) ∣ (f j : Int) - (f 0 : Int)

theorem WR.run_of (f : Nat → Nat) : ∀ k, (WR.run f (k + 1)).Of f (k + 1)
  | 0 => by
    refine ⟨rfl, rfl, ?_, ⟨0, by omega, rfl⟩, ?_, ⟨0, by omega, rfl⟩, ?_⟩
    · intro j hj; obtain rfl : j = 0 := by omega
      exact Nat.le_refl _
    · intro j hj; obtain rfl : j = 0 := by omega
      exact Nat.le_refl _
    · intro d
      refine ⟨fun _ j hj => ?_, fun _ => Nat.dvd_zero d⟩
      obtain rfl : j = 0 := by omega
      rw [Int.sub_self]; exact Int.dvd_zero _
  | k + 1 => by
    have h := WR.run_of f k
    obtain ⟨h1, h2, h3, h4, h5, h6, h7⟩ := h
    rw [WR.run]
    generalize WR.run f (k + 1) = q at *
    have e : q.add (f (k + 1)) = ⟨q.first, min q.least (f (k + 1)), max q.most (f (k + 1)), Nat.gcd q.step (max (f (k + 1)) q.first - min (f (k + 1)) q.first), true⟩ := by
      simp only [WR.add, h1, if_true]
    rw [e]
    refine ⟨rfl, h2, ?_, ?_, ?_, ?_, ?_⟩
    · intro j hj
      show min q.least (f (k + 1)) ≤ f j
      by_cases e : j = k + 1
      · subst e; omega
      · have := h3 j (by omega); omega
    · show ∃ j, j < k + 1 + 1 ∧ f j = min q.least (f (k + 1))
      obtain ⟨j, hj, hv⟩ := h4
      rcases Nat.le_total q.least (f (k + 1)) with hh | hh
      · exact ⟨j, by omega, by omega⟩
      · exact ⟨k + 1, by omega, by omega⟩
    · intro j hj
      show f j ≤ max q.most (f (k + 1))
      by_cases e : j = k + 1
      · subst e; omega
      · have := h5 j (by omega); omega
    · show ∃ j, j < k + 1 + 1 ∧ f j = max q.most (f (k + 1))
      obtain ⟨j, hj, hv⟩ := h6
      rcases Nat.le_total (f (k + 1)) q.most with hh | hh
      · exact ⟨j, by omega, by omega⟩
      · exact ⟨k + 1, by omega, by omega⟩
    · intro d
      show d ∣ Nat.gcd q.step (max (f (k + 1)) q.first - min (f (k + 1)) q.first) ↔ _
      rw [Nat.dvd_gcd_iff, h7 d, dvd_dist, h2]
      constructor
      · rintro ⟨ha, hb⟩ j hj
        by_cases e : j = k + 1
        · subst e; exact hb
        · exact ha j (by omega)
      · intro ha
        exact ⟨fun j hj => ha j (by omega), ha (k + 1) (by omega)⟩

theorem WR.Of.pair {q : WR} {f : Nat → Nat} {n : Nat} (h : q.Of f n) (h0 : 0 < n) (d : Nat) : d ∣ q.step ↔ ∀ i j, i < n → j < n → (d : Int) ∣ (f i : Int) - (f j : Int) := by
  rw [h.step d]
  constructor
  · intro ha i j hi hj
    have := Int.dvd_sub (ha i hi) (ha j hj)
    rwa [show (f i : Int) - f 0 - (f j - f 0) = f i - f j from by omega] at this
  · intro ha j hj
    exact ha j 0 hj h0

/-- ORDER-FREE: the list and the list reversed. -/
theorem WR.Of.rev {q r : WR} {f g : Nat → Nat} {n : Nat} (h : q.Of f n) (k : r.Of g n) (h0 : 0 < n) (hg : ∀ i, i < n → g i = f (n - 1 - i)) : r.least = q.least ∧ r.most = q.most ∧ r.step = q.step := by
  have hg' : ∀ i, i < n → f i = g (n - 1 - i) := fun i hi => by rw [hg _ (by omega)]; congr 1; omega
  refine ⟨?_, ?_, ?_⟩
  · apply Nat.le_antisymm
    · obtain ⟨j, hj, e⟩ := h.loAt
      rw [← e, hg' j hj]; exact k.lo _ (by omega)
    · obtain ⟨j, hj, e⟩ := k.loAt
      rw [← e, hg j hj]; exact h.lo _ (by omega)
  · apply Nat.le_antisymm
    · obtain ⟨j, hj, e⟩ := k.hiAt
      rw [← e, hg j hj]; exact h.hi _ (by omega)
    · obtain ⟨j, hj, e⟩ := h.hiAt
      rw [← e, hg' j hj]; exact k.hi _ (by omega)
  · apply Nat.dvd_antisymm
    · rw [h.pair h0]
      intro i j hi hj
      rw [hg' i hi, hg' j hj]
      exact (k.pair h0 r.step).1 (Nat.dvd_refl _) _ _ (by omega) (by omega)
    · rw [k.pair h0]
      intro i j hi hj
      rw [hg i hi, hg j hj]
      exact (h.pair h0 q.step).1 (Nat.dvd_refl _) _ _ (by omega) (by omega)

/-- step numbers the words. -/
theorem WR.Of.numbered {q : WR} {f : Nat → Nat} {n : Nat} (h : q.Of f n) (h0 : 0 < n) (j : Nat) (hj : j < n) : (q.step : Int) ∣ (f j : Int) - (q.least : Int) := by
  obtain ⟨i, hi, e⟩ := h.loAt
  rw [← e]
  exact (h.pair h0 q.step).1 (Nat.dvd_refl _) j i hj hi

theorem WR.Of.still {q : WR} {f : Nat → Nat} {n : Nat} (h : q.Of f n) (h0 : 0 < n) (j : Nat) (hj : j < n) (hs : q.step = 0) : f j = q.least := by
  have := h.numbered h0 j hj
  rw [hs] at this
  have := Int.zero_dvd.1 (by simpa using this)
  omega

/-- Has one of the first k words the value v? -/
def hit (f : Nat → Nat) (v : Nat) : Nat → Bool
  | 0 => false
  | k + 1 => if f k = v then true else hit f v k

theorem hit_of {f : Nat → Nat} {v : Nat} : ∀ {n j : Nat}, j < n → f j = v → hit f v n = true
  | 0, _, h, _ => absurd h (by omega)
  | n + 1, j, h, e => by
    rw [hit]
    by_cases e' : f n = v
    · rw [if_pos e']
    · rw [if_neg e']
      by_cases hj : j = n
      · subst hj; exact absurd e e'
      · exact hit_of (by omega) e

theorem hit_yes {f : Nat → Nat} {v k : Nat} (h : f k = v) : hit f v (k + 1) = true := by rw [hit, if_pos h]
theorem hit_no {f : Nat → Nat} {v k : Nat} (h : ¬ f k = v) : hit f v (k + 1) = hit f v k := by rw [hit, if_neg h]

/-- What FnPriorityRangesOrderFreeAndNumbered asks of one word. -/
theorem ord_plain (f : Nat → Nat) (n : Nat) (h0 : 0 < n) : ∃ L M S : Nat, WR.run f n = ⟨f 0, L, M, S, true⟩ ∧ WR.run (fun j => f (n - 1 - j)) n = ⟨f (n - 1), L, M, S, true⟩ ∧
    (∀ j, j < n → L ≤ f j) ∧ (∀ j, j < n → f j ≤ M) ∧ (∀ j, j < n → (S : Int) ∣ (f j : Int) - (L : Int)) ∧ hit f L n = true ∧ hit f M n = true := by
  obtain ⟨k, rfl⟩ : ∃ k, n = k + 1 := ⟨n - 1, by omega⟩
  have h := WR.run_of f k
  have r := WR.run_of (fun j => f (k + 1 - 1 - j)) k
  have e := h.rev r h0 (fun i _ => rfl)
  generalize WR.run f (k + 1) = q at *
  generalize WR.run (fun j => f (k + 1 - 1 - j)) (k + 1) = q' at *
  refine ⟨q.least, q.most, q.step, ?_, ?_, h.lo, h.hi, fun j hj => h.numbered h0 j hj, ?_, ?_⟩
  · obtain ⟨a, b, c, d, s⟩ := q
    have := h.first; have := h.seen; simp_all
  · obtain ⟨a, b, c, d, s⟩ := q'
    obtain ⟨e1, e2, e3⟩ := e
    have := r.first; have := r.seen; simp_all
  · obtain ⟨j, hj, e⟩ := h.loAt
    exact hit_of hj e
  · obtain ⟨j, hj, e⟩ := h.hiAt
    exact hit_of hj e

theorem run_seen (f : Nat → Nat) (k : Nat) : (WR.run f (k + 1)).seen = true := rfl
theorem run_least (f : Nat → Nat) (k : Nat) (h : 0 < k) : (WR.run f (k + 1)).least = min (WR.run f k).least (f k) := by
  obtain ⟨m, rfl⟩ : ∃ m, k = m + 1 := ⟨k - 1, by omega⟩
  rw [WR.run]
  simp only [WR.add, run_seen, if_true]
theorem run_most (f : Nat → Nat) (k : Nat) (h : 0 < k) : (WR.run f (k + 1)).most = max (WR.run f k).most (f k) := by
  obtain ⟨m, rfl⟩ : ∃ m, k = m + 1 := ⟨k - 1, by omega⟩
  rw [WR.run]
  simp only [WR.add, run_seen, if_true]

/-- The gcd of the first k differences from L. -/
def gTo (f : Nat → Nat) (L : Nat) : Nat → Nat
  | 0 => 0
  | k + 1 => Nat.gcd (gTo f L k) (f k - L)

theorem gTo_lt (f : Nat → Nat) (L : Nat) (hf : ∀ i, f i < 18446744073709551616) : ∀ k, gTo f L k < 18446744073709551616
  | 0 => by rw [gTo]; omega
  | k + 1 => by rw [gTo]; exact gcd_lt (gTo_lt f L hf k) (by have := hf k; omega)

theorem dvd_gTo (f : Nat → Nat) (L d : Nat) : ∀ k, d ∣ gTo f L k ↔ ∀ j, j < k → d ∣ f j - L
  | 0 => by rw [gTo]; exact ⟨fun _ j hj => absurd hj (by omega), fun _ => Nat.dvd_zero d⟩
  | k + 1 => by
    rw [gTo, Nat.dvd_gcd_iff, dvd_gTo f L d k]
    constructor
    · rintro ⟨ha, hb⟩ j hj
      by_cases e : j = k
      · subst e; exact hb
      · exact ha j (by omega)
    · intro ha
      exact ⟨fun j hj => ha j (by omega), ha k (by omega)⟩

theorem WR.Of.step_eq {q : WR} {f : Nat → Nat} {n : Nat} (h : q.Of f n) (h0 : 0 < n) : q.step = gTo f q.least n := by
  have key : ∀ j d : Nat, j < n → (d ∣ f j - q.least ↔ (d : Int) ∣ (f j : Int) - (q.least : Int)) := fun j d hj => by
    have := h.lo j hj
    rw [← Int.natCast_dvd_natCast, show ((f j - q.least : Nat) : Int) = (f j : Int) - (q.least : Int) from by omega]
  apply Nat.dvd_antisymm
  · rw [dvd_gTo]
    intro j hj
    rw [key j _ hj]
    exact h.numbered h0 j hj
  · rw [h.pair h0]
    intro i j hi hj
    have ha := (dvd_gTo f q.least (gTo f q.least n) n).1 (Nat.dvd_refl _)
    have h1 := (key i _ hi).1 (ha i hi)
    have h2 := (key j _ hj).1 (ha j hj)
    have := Int.dvd_sub h1 h2
    rwa [show (f i : Int) - q.least - (f j - q.least) = f i - f j from by omega] at this

/-- What FnPriorityRangesMatchModel asks of one word. -/
theorem match_plain (f : Nat → Nat) (n : Nat) (h0 : 0 < n) : ∃ L M S : Nat, WR.run f n = ⟨f 0, L, M, S, true⟩ ∧ (∀ j, j < n → L ≤ f j) ∧ S = gTo f L n := by
  obtain ⟨k, rfl⟩ : ∃ k, n = k + 1 := ⟨n - 1, by omega⟩
  have h := WR.run_of f k
  generalize WR.run f (k + 1) = q at *
  refine ⟨q.least, q.most, q.step, ?_, h.lo, h.step_eq h0⟩
  obtain ⟨a, b, c, d, s⟩ := q
  have := h.first; have := h.seen; simp_all
end Go.Proofs.Qxb6605703a
