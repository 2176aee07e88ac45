/- zzBinaryGcd computes Nat.gcd. -/
import Derived.Test.Qxb6605703aRows
import Derived.Test.Qxb6605703aBase
import Derived.WalkKit
import Derived.WalkSpells
import Derived.WalkLawsBesides
namespace Go.Proofs.Qxb6605703a
open Go.RowKit

theorem cop2 {b : Nat} (h : b % 2 = 1) : Nat.Coprime 2 b := by rw [Nat.Coprime, Nat.gcd_rec, h]; rfl
theorem half_left {a b : Nat} (ha : a % 2 = 0) (hb : b % 2 = 1) : Nat.gcd (a / 2) b = Nat.gcd a b := by
  have e : a = 2 * (a / 2) := by omega
  have := Nat.Coprime.gcd_mul_left_cancel (a / 2) (cop2 hb)
  rw [← e] at this
  exact this.symm
theorem half_right {a b : Nat} (ha : a % 2 = 1) (hb : b % 2 = 0) : Nat.gcd a (b / 2) = Nat.gcd a b := by
  rw [Nat.gcd_comm a, Nat.gcd_comm a]; exact half_left hb ha
theorem half_both {a b : Nat} (ha : a % 2 = 0) (hb : b % 2 = 0) : Nat.gcd (a / 2) (b / 2) * 2 = Nat.gcd a b := by
  have ea : a = 2 * (a / 2) := by omega
  have eb : b = 2 * (b / 2) := by omega
  have := Nat.gcd_mul_left 2 (a / 2) (b / 2)
  rw [← ea, ← eb] at this
  omega
theorem gcd_step {a b : Nat} : Nat.gcd (min a b) (max a b - min a b) = Nat.gcd a b := by
  rw [Nat.gcd_sub_self_right (by omega)]
  rcases Nat.le_total a b with h | h
  · rw [show min a b = a from by omega, show max a b = b from by omega]
  · rw [show min a b = b from by omega, show max a b = a from by omega, Nat.gcd_comm]

theorem and1 (a : Nat) (ha : a < 18446744073709551616) : bits BinOp.and IntKind.u64 (a : Int) 1 = ((a % 2 : Nat) : Int) := by
  have h := bits_and_u64_nat a 1 ha (by omega)
  rw [Nat.and_one_is_mod] at h
  exact h
theorem or1 (a b : Nat) (ha : a < 18446744073709551616) (hb : b < 18446744073709551616) : bits BinOp.and IntKind.u64 (bits BinOp.or IntKind.u64 (a : Int) (b : Int)) 1 = (((a ||| b) % 2 : Nat) : Int) := by
  rw [bits_or_u64_nat a b ha hb]
  exact and1 _ (Nat.or_lt_two_pow (n := 64) ha hb)
theorem even_yes {a : Nat} (ha : a < 18446744073709551616) (h : a % 2 = 0) : (bits BinOp.and IntKind.u64 (a : Int) 1 == 0) = true := by rw [and1 a ha, h]; rfl
theorem even_no {a : Nat} (ha : a < 18446744073709551616) (h : a % 2 = 1) : (bits BinOp.and IntKind.u64 (a : Int) 1 == 0) = false := by rw [and1 a ha, h]; rfl
theorem evens_yes {a b : Nat} (ha : a < 18446744073709551616) (hb : b < 18446744073709551616) (h : a % 2 = 0) (k : b % 2 = 0) : (bits BinOp.and IntKind.u64 (bits BinOp.or IntKind.u64 (a : Int) (b : Int)) 1 == 0) = true := by
  rw [or1 a b ha hb]
  have : ¬ (a ||| b) % 2 = 1 := fun e => by have := Nat.or_mod_two_eq_one.1 e; omega
  rw [show (a ||| b) % 2 = 0 from by omega]; rfl
theorem evens_no {a b : Nat} (ha : a < 18446744073709551616) (hb : b < 18446744073709551616) (h : a % 2 = 1 ∨ b % 2 = 1) : (bits BinOp.and IntKind.u64 (bits BinOp.or IntKind.u64 (a : Int) (b : Int)) 1 == 0) = false := by
  rw [or1 a b ha hb, Nat.or_mod_two_eq_one.2 h]; rfl

theorem pow_room {a s : Nat} (ha : 1 < a) (h : a * 2 ^ s < 18446744073709551616) : s + 1 < 64 := by
  apply Nat.lt_of_not_le
  intro hs
  have : 2 ^ 63 ≤ 2 ^ s := Nat.pow_le_pow_right (by omega) (by omega)
  have h2 : 2 * 2 ^ s ≤ a * 2 ^ s := Nat.mul_le_mul_right _ (by omega)
  omega

theorem ret_int {k : IntKind} {a b : Int} (h : a = b) : Ending.returned (.int k a) = .returned (.int k b) := by rw [h]
theorem shl_back {a s G : Nat} (h : a * 2 ^ s = G) (hG : G < 18446744073709551616) : IntKind.u64.wrap ((a : Int) * 2 ^ s) = (G : Int) := by
  have e : (a : Int) * 2 ^ s = (G : Int) := by rw [← h, Int.natCast_mul, Int.natCast_pow]; rfl
  rw [e, IntKind.wrap_u64]
  omega

set_option maxRecDepth 100000 in
set_option maxHeartbeats 400000 in
theorem bingcd_pos (A B G : Nat) (w : World) (ha : A < 18446744073709551616) (hb : B < 18446744073709551616) (hA : 0 < A) (hB : 0 < B) (hG : Hid (Nat.gcd A B = G)) :
    Calls Try.prog 20 #[.int .u64 A, .int .u64 B] w fun e w' => e = .returned (.int .u64 G) ∧ w = w' := by
  have hA0 : ((A : Int) == 0) = false := beq_eq_false_iff_ne.2 (by omega)
  have hB0 : ((B : Int) == 0) = false := beq_eq_false_iff_ne.2 (by omega)
  have HG0 : Hid (G < 18446744073709551616) := Nat.lt_of_le_of_lt (by rw [← hG.out]; exact Nat.gcd_le_left B hA) ha
  go_enter Try.func20, Try.ntmps20
  go_wp2_with fail
  go_loop [0, 1, 5] (fun ta tb ts => ∃ a b s : Nat, ta = .int .u64 a ∧ tb = .int .u64 b ∧ ts = .int .u64 s ∧ 0 < a ∧ 0 < b ∧ a < 18446744073709551616 ∧ b < 18446744073709551616 ∧ s < 64 ∧ Hid (a * 2 ^ s < 18446744073709551616) ∧ Hid (Nat.gcd a b * 2 ^ s = G)) (fun ta _ _ => (intOf ta).toNat)
  case atStart => exact ⟨A, B, 0, rfl, rfl, rfl, hA, hB, ha, hb, by omega, by rw [Nat.pow_zero, Nat.mul_one]; exact ha, by rw [Nat.pow_zero, Nat.mul_one]; exact hG⟩
  case round =>
    clear hA0 hB0 hG
    obtain ⟨a, b, s, rfl, rfl, rfl, ha, hb, ha2, hb2, hs, hb3, hG2⟩ := hrel
    by_cases hev : a % 2 = 0 ∧ b % 2 = 0
    · have t := evens_yes ha2 hb2 hev.1 hev.2
      have hs2 := pow_room (by omega) hb3.out
      have hg := half_both hev.1 hev.2
      have HB : Hid (a / 2 * 2 ^ (s + 1) < 18446744073709551616) := by
        have := hb3.out
        rw [Nat.pow_succ, Nat.mul_comm (2 ^ s) 2, ← Nat.mul_assoc, show a / 2 * 2 = a from by omega]; exact this
      have HG3 : Hid (Nat.gcd (a / 2) (b / 2) * 2 ^ (s + 1) = G) := by
        rw [Nat.pow_succ, Nat.mul_comm (2 ^ s) 2, ← Nat.mul_assoc, hg]; exact hG2
      clear hg
      go_wp2_with fail
      go_round
      case rel => exact ⟨a / 2, b / 2, s + 1, by go_num, by go_num, by go_num, by omega, by omega, by omega, by omega, by omega, HB, HG3⟩
      case measure => simp [intOf]; omega
    · have hor : a % 2 = 1 ∨ b % 2 = 1 := by omega
      have t := evens_no ha2 hb2 hor
      clear hev hb3
      go_wp2_with fail
      go_loop [0] (fun ta => ∃ a : Nat, ta = .int .u64 a ∧ 0 < a ∧ a < 18446744073709551616 ∧ (a % 2 = 1 ∨ b % 2 = 1) ∧ Hid (Nat.gcd a b * 2 ^ s = G)) (fun ta => (intOf ta).toNat)
      case atStart => exact ⟨a, rfl, ha, ha2, hor, hG2⟩
      case round =>
        clear hor t ha ha2 hG2
        obtain ⟨a, rfl, ha, ha2, hor, hG2⟩ := hrel
        by_cases hev : a % 2 = 0
        · have t := even_yes ha2 hev
          have HG3 : Hid (Nat.gcd (a / 2) b * 2 ^ s = G) := by rw [half_left hev (by omega)]; exact hG2
          go_wp2_with fail
          go_round
          case rel => exact ⟨a / 2, by go_num, by omega, by omega, by omega, HG3⟩
          case measure => simp [intOf]; omega
        · have hodd : a % 2 = 1 := by omega
          have t := even_no ha2 hodd
          clear hev hor
          go_wp2_with fail
          go_loop [0, 1] (fun ta tb => ∃ a b : Nat, ta = .int .u64 a ∧ tb = .int .u64 b ∧ a % 2 = 1 ∧ a < 18446744073709551616 ∧ b < 18446744073709551616 ∧ Hid (Nat.gcd a b * 2 ^ s = G)) (fun ta tb => (intOf ta).toNat + (intOf tb).toNat)
          case atStart => exact ⟨a, b, rfl, rfl, hodd, ha2, hb2, hG2⟩
          case round =>
            clear t hodd ha ha2 hb hb2 hG2
            obtain ⟨a, b, rfl, rfl, hodd, ha2, hb2, hG2⟩ := hrel
            by_cases hb0 : b = 0
            · subst hb0
              have ht : ((0 : Int) != 0) = false := rfl
              have HR : Hid (a * 2 ^ s = G) := by have := hG2.out; rwa [Nat.gcd_zero_right] at this
              go_wp2_with fail
              go_ret
              exact ⟨ret_int (shl_back HR.out HG0.out), rfl⟩
            · have ht : ((b : Int) != 0) = true := by rw [bne_iff_ne]; omega
              go_wp2_with fail
              go_loop [1] (fun tb => ∃ c : Nat, tb = .int .u64 c ∧ 0 < c ∧ c ≤ b ∧ Hid (Nat.gcd a c * 2 ^ s = G)) (fun tb => (intOf tb).toNat)
              case atStart => exact ⟨b, rfl, by omega, Nat.le_refl _, hG2⟩
              case round =>
                clear hG2 ht
                obtain ⟨c, rfl, hc0, hcb, hG2⟩ := hrel
                have hc2 : c < 18446744073709551616 := by omega
                by_cases hev : c % 2 = 0
                · have t := even_yes hc2 hev
                  have HG3 : Hid (Nat.gcd a (c / 2) * 2 ^ s = G) := by rw [half_right hodd hev]; exact hG2
                  go_wp2_with fail
                  go_round
                  case rel => exact ⟨c / 2, by go_num, by omega, by omega, HG3⟩
                  case measure => simp [intOf]; omega
                · have hodc : c % 2 = 1 := by omega
                  have t := even_no hc2 hodc
                  have HG3 : Hid (Nat.gcd (min a c) (max a c - min a c) * 2 ^ s = G) := by rw [gcd_step]; exact hG2
                  clear hev
                  rcases Nat.lt_or_ge c a with hlt | hge
                  · rw [show min a c = c from by omega, show max a c = a from by omega] at HG3
                    go_wp2_with fail
                    go_round
                    case rel => exact ⟨c, a - c, by go_num, by go_num, hodc, hc2, by omega, HG3⟩
                    case measure => simp [intOf]; omega
                  · rw [show min a c = a from by omega, show max a c = c from by omega] at HG3
                    go_wp2_with fail
                    go_round
                    case rel => exact ⟨a, c - a, by go_num, by go_num, hodd, ha2, by omega, HG3⟩
                    case measure => simp [intOf]; omega

set_option maxHeartbeats 400000 in
/-- zzBinaryGcd -/
theorem bingcd (A B : Nat) (w : World) (ha : A < 18446744073709551616) (hb : B < 18446744073709551616) :
    Calls Try.prog 20 #[.int .u64 A, .int .u64 B] w fun e w' => e = .returned (.int .u64 (Nat.gcd A B : Nat)) ∧ w = w' := by
  by_cases hA : A = 0
  · subst hA
    go_enter Try.func20, Try.ntmps20
    go_wp2
    go_ret
    exact ⟨ret_int (by rw [Nat.gcd_zero_left]), rfl⟩
  by_cases hB : B = 0
  · subst hB
    have hA0 : ((A : Int) == 0) = false := beq_eq_false_iff_ne.2 (by omega)
    go_enter Try.func20, Try.ntmps20
    go_wp2
    go_ret
    exact ⟨ret_int (by rw [Nat.gcd_zero_right]), rfl⟩
  exact bingcd_pos A B _ w ha hb (by omega) (by omega) rfl
end Go.Proofs.Qxb6605703a
