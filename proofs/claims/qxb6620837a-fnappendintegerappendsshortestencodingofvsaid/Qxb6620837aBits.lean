/-
  PLAIN: the bit operations of the encoding, as sums and remainders.
-/
import Derived.WalkKit
import Derived.Laws.BitsAllLaws
namespace Go.Proofs.Qxb6620837a.Enc

theorem or_first (F p x : Nat) (hF : F < 256) (hd : F % 2 ^ p = 0) (hp : p ≤ 8) (hx : x < 2 ^ p) : bits BinOp.or IntKind.u8 (F : Int) (x : Int) = ((F + x : Nat) : Int) := by
  have h2 : 2 ^ p ≤ 2 ^ 8 := Nat.pow_le_pow_right (by omega) hp
  rw [u8_or_nat F x hF (by omega), nat_join p F x hd hx]

theorem and_mask (x p : Nat) (hx : x < 256) (hp : p ≤ 8) : bits BinOp.and IntKind.u8 (x : Int) ((2 ^ p - 1 : Nat) : Int) = ((x % 2 ^ p : Nat) : Int) := by
  have h2 : 2 ^ p ≤ 2 ^ 8 := Nat.pow_le_pow_right (by omega) hp
  rw [u8_and_nat x _ hx (by omega), Nat.and_two_pow_sub_one_eq_mod]

theorem andNot_nat (x p : Nat) (hx : x < 256) (hp : p ≤ 8) : x &&& (255 - (2 ^ p - 1)) = x - x % 2 ^ p := by
  have hp : p = 0 ∨ p = 1 ∨ p = 2 ∨ p = 3 ∨ p = 4 ∨ p = 5 ∨ p = 6 ∨ p = 7 ∨ p = 8 := by omega
  revert x
  rcases hp with rfl | rfl | rfl | rfl | rfl | rfl | rfl | rfl | rfl <;> decide +kernel

theorem andNot_mask (x p : Nat) (hx : x < 256) (hp : p ≤ 8) : bits BinOp.andNot IntKind.u8 (x : Int) ((2 ^ p - 1 : Nat) : Int) = ((x - x % 2 ^ p : Nat) : Int) := by
  have h2 : 2 ^ p ≤ 2 ^ 8 := Nat.pow_le_pow_right (by omega) hp
  rw [u8_andNot_nat x _ hx (by omega), andNot_nat x p hx hp]

theorem or_128 (u : Nat) : bits BinOp.or IntKind.u8 ((u : Int) % 256) 128 = ((u % 128 + 128 : Nat) : Int) := by
  have h : ∀ x, x < 256 → x ||| 128 = x % 128 + 128 := by decide +kernel
  have e : (u : Int) % 256 = ((u % 256 : Nat) : Int) := by omega
  rw [e, show (128 : Int) = ((128 : Nat) : Int) from rfl, u8_or_nat _ _ (by omega) (by omega), h _ (by omega)]
  omega

theorem and_128 (x : Nat) (hx : x < 256) : bits BinOp.and IntKind.u8 (x : Int) 128 = if 128 ≤ x then 128 else 0 := by
  have h : ∀ x, x < 256 → x &&& 128 = if 128 ≤ x then 128 else 0 := by decide +kernel
  rw [show (128 : Int) = ((128 : Nat) : Int) from rfl, u8_and_nat _ _ hx (by omega), h _ hx]
  split <;> rfl

theorem and_127 (x : Nat) (hx : x < 256) : bits BinOp.and IntKind.u8 (x : Int) 127 = ((x % 128 : Nat) : Int) := by
  rw [show (127 : Int) = ((127 : Nat) : Int) from rfl, u8_and_nat _ _ hx (by omega), nat_mask7]

theorem or_shift (acc c s : Nat) (h1 : acc < 2 ^ s) (h2 : acc + c * 2 ^ s < 18446744073709551616) : bits BinOp.or IntKind.u64 (acc : Int) ((c * 2 ^ s : Nat) : Int) = ((acc + c * 2 ^ s : Nat) : Int) := by
  rw [u64_or_nat _ _ (by omega) (by omega), Nat.or_comm, nat_join s (c * 2 ^ s) acc (by simp) h1, Nat.add_comm]


theorem first_add (F p x : Nat) (hF : F < 256) (hd : F % 2 ^ p = 0) (hp : p ≤ 8) (hx : x < 2 ^ p) : F + x < 256 ∧ (F + x) % 2 ^ p = x ∧ F + x - x = F := by
  refine ⟨?_, ?_, by omega⟩
  · have e : 256 % 2 ^ p = 0 := by
      have hp : p = 0 ∨ p = 1 ∨ p = 2 ∨ p = 3 ∨ p = 4 ∨ p = 5 ∨ p = 6 ∨ p = 7 ∨ p = 8 := by omega
      rcases hp with rfl | rfl | rfl | rfl | rfl | rfl | rfl | rfl | rfl <;> rfl
    have a := Nat.div_add_mod F (2 ^ p)
    have b := Nat.div_add_mod 256 (2 ^ p)
    rw [hd] at a
    rw [e] at b
    have hq : F / 2 ^ p < 256 / 2 ^ p := by
      apply Nat.lt_of_not_le
      intro h
      have := Nat.mul_le_mul_left (2 ^ p) h
      omega
    have c := Nat.mul_le_mul_left (2 ^ p) (Nat.succ_le_of_lt hq)
    rw [Nat.mul_succ] at c
    omega
  · rw [Nat.add_mod, hd]
    simp
    exact Nat.mod_eq_of_lt hx

theorem pow7 (k : Nat) : 2 ^ (7 * k) = 128 ^ k := by rw [Nat.pow_mul]

/-- One octet more. -/
theorem acc_next (u k : Nat) : u % 128 ^ k + (u / 128 ^ k % 128) * 128 ^ k = u % 128 ^ (k + 1) := by
  rw [Nat.pow_succ, Nat.mod_mul, Nat.mul_comm]

theorem digit9 (u : Nat) (h : u < 18446744073709551616) : u / 128 ^ 9 % 128 ≤ 1 := by
  have : u / 128 ^ 9 ≤ 1 := by
    apply Nat.le_of_lt_succ
    apply Nat.div_lt_of_lt_mul
    omega
  omega

theorem acc_step (u k : Nat) (hu : u < 18446744073709551616) : bits BinOp.or IntKind.u64 ((u % 128 ^ k : Nat) : Int) (IntKind.u64.wrap (((u / 128 ^ k % 128 : Nat) : Int) * 2 ^ (7 * k))) = ((u % 128 ^ (k + 1) : Nat) : Int) := by
  have e := acc_next u k
  have h1 : u % 128 ^ (k + 1) ≤ u := Nat.mod_le _ _
  have e2 : ((u / 128 ^ k % 128 : Nat) : Int) * 2 ^ (7 * k) = (((u / 128 ^ k % 128) * 2 ^ (7 * k) : Nat) : Int) := by simp
  rw [e2, IntKind.wrap_u64]
  rw [← pow7] at e ⊢
  rw [show ((((u / 2 ^ (7 * k) % 128) * 2 ^ (7 * k) : Nat) : Int)) % 18446744073709551616 = (((u / 2 ^ (7 * k) % 128) * 2 ^ (7 * k) : Nat) : Int) from Int.emod_eq_of_lt (by omega) (by omega)]
  rw [or_shift _ _ _ (Nat.mod_lt _ (Nat.two_pow_pos _)) (by omega), e]

theorem lt_pow (u D : Nat) (h1 : 1 ≤ D) (h : u / 128 ^ (D - 1) < 128) : u % 128 ^ D = u := by
  apply Nat.mod_eq_of_lt
  obtain ⟨d, rfl⟩ : ∃ d, D = d + 1 := ⟨D - 1, by omega⟩
  rw [Nat.add_sub_cancel] at h
  rw [Nat.pow_succ, Nat.mul_comm]
  exact Nat.lt_mul_of_div_lt h (Nat.pow_pos (by omega))

theorem wrap_last (c k : Nat) (hk : k = 9) (hc : c ≤ 1) : IntKind.u64.wrap ((c : Int) * 2 ^ (7 * k)) = (c : Int) * 9223372036854775808 := by
  subst hk
  rw [IntKind.wrap_u64]
  omega

end Go.Proofs.Qxb6620837a.Enc
