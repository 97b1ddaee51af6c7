/-
  THE WALKS of the seat's byte functions: zzPrefixMask (10), zzSameBytes (13).
-/
import Derived.Test.Qxb6620837aProg
import Derived.Test.Qxb6620837aEnc
import Derived.WalkKit
import Derived.WalkSpells
import Derived.RowKit3
import Derived.KernelRfl
import Derived.Deep.QuietTactic
import Derived.BigQuiet
import Derived.Maps.AppendAt
namespace Go.Proofs.Qxb6620837a
open Go.RowKit

/-- zzPrefixMask -/
theorem mask_any (p : Nat) (h1 : 1 ≤ p) (h8 : p ≤ 8) (w : World) :
    Calls Try.prog 10 #[.int .u64 (p : Int)] w fun e w' => e = .returned (.int .u8 ((2 ^ p - 1 : Nat) : Int)) ∧ w' = w := by
  have hp : p = 1 ∨ p = 2 ∨ p = 3 ∨ p = 4 ∨ p = 5 ∨ p = 6 ∨ p = 7 ∨ p = 8 := by omega
  rcases hp with rfl | rfl | rfl | rfl | rfl | rfl | rfl | rfl
  all_goals
    go_enter Try.func10, Try.ntmps10
    go_wp2
    go_ret
    exact ⟨rfl, rfl⟩


/-- What is known of a slice of bytes. -/
def BytesAt (w : World) (ao : Option Addr) (xs : List Int) : Prop :=
  ∀ i, i < xs.length → ∃ b o, ao = some ⟨b, o, none⟩ ∧ w.cell? ⟨b, o + i, none⟩ = some (.int .u8 (xs.getD i 0))

theorem BytesAt.alike {w : World} {ao : Option Addr} {xs : List Int} (h : BytesAt w ao xs) (n : Nat) : BytesAt (w.drewN n) ao xs := by
  intro i hi
  obtain ⟨b, o, e, hc⟩ := h i hi
  exact ⟨b, o, e, by simpa using hc⟩

theorem ret_bool {a b : Bool} (h : a = b) : Ending.returned (.bool a) = .returned (.bool b) := by rw [h]
theorem getD_lt (xs : List Int) (k : Nat) (h : k < xs.length) : xs.getD k 0 = xs[k] := by simp [h]
theorem ne_of_at (xs ys : List Int) (k : Nat) (h1 : k < xs.length) (h2 : k < ys.length) (h : (xs[k] != ys[k]) = true) : false = decide (xs = ys) := by
  symm
  rw [decide_eq_false_iff_not]
  rintro rfl
  simp at h

theorem eq_of_all (xs ys : List Int) (n : Nat) (h1 : xs.length = n) (h2 : ys.length = n) (h : ∀ j, j < n → xs.getD j 0 = ys.getD j 0) : xs = ys := by
  refine List.ext_getElem (by omega) fun i a b => ?_
  have := h i (by omega)
  rwa [getD_lt _ _ a, getD_lt _ _ b] at this

theorem upto_succ {P : Nat → Prop} {k : Nat} (h : ∀ j, j < k → P j) (hk : P k) : ∀ j, j < k + 1 → P j := fun j hj =>
  if e : j = k then e ▸ hk else h j (by omega)

set_option maxHeartbeats 400000 in
theorem same_core (b1 o1 b2 o2 n ca cb : Nat) (xs ys : List Int) (hx : xs.length = n) (hy : ys.length = n) (w : World) (hm : n ≤ 9223372036854775807)
    (h1 : ∀ i, i < n → w.cell? ⟨b1, o1 + i, none⟩ = some (.int .u8 (xs.getD i 0))) (h2 : ∀ i, i < n → w.cell? ⟨b2, o2 + i, none⟩ = some (.int .u8 (ys.getD i 0))) :
    Calls Try.prog 13 #[.slice (some ⟨b1, o1, none⟩) n ca, .slice (some ⟨b2, o2, none⟩) n cb] w fun e w' => e = .returned (.bool (decide (xs = ys))) ∧ ∃ q, w' = w.drewN q := by
  go_enter Try.func13, Try.ntmps13
  go_wp2
  go_loopw [5] (fun i wr => ∃ k q : Nat, k ≤ n ∧ i = .int .i64 k ∧ wr = w.drewN q ∧ ∀ j, j < k → xs.getD j 0 = ys.getD j 0) (fun i _ => n - (intOf i).toNat)
  case atStart => exact ⟨0, 0, Nat.zero_le _, rfl, rfl, fun j hj => by omega⟩
  case round =>
    obtain ⟨k, q, hk, rfl, rfl, heq⟩ := hrel
    have HE : Hid (∀ j, j < k → xs.getD j 0 = ys.getD j 0) := heq
    clear heq
    by_cases hlt : k < n
    · have g1 := h1 k hlt
      have g2 := h2 k hlt
      have i1 : (0 : Int) ≤ (k : Int) := by omega
      have i2 : (k : Int) < (n : Int) := by omega
      go_wp2
      go_quiet (fail)
      go_wp2
      · go_ret
        exact ⟨ret_bool (ne_of_at xs ys k (by omega) (by omega) (by assumption)), q + nq, by simp⟩
      · go_round
        case rel => exact ⟨k + 1, _, by omega, by go_num, rfl, upto_succ HE.out (by
          have h : (xs[k] != ys[k]) = false := by assumption
          rw [getD_lt _ _ (by omega), getD_lt _ _ (by omega)]
          simpa using h)⟩
        case measure => simp [intOf]; omega
    · go_wp2
      go_ret
      have e : k = n := by omega
      subst e
      exact ⟨ret_bool (decide_eq_true (eq_of_all xs ys _ hx hy HE.out)).symm, q, rfl⟩

theorem same_any (ao bo : Option Addr) (la lb ca cb : Nat) (xs ys : List Int) (hx : xs.length = la) (hy : ys.length = lb) (w : World) (hm : la ≤ maxLen) (hm' : lb ≤ maxLen)
    (h1 : BytesAt w ao xs) (h2 : BytesAt w bo ys) :
    Calls Try.prog 13 #[.slice ao la ca, .slice bo lb cb] w fun e w' => e = .returned (.bool (decide (xs = ys))) ∧ ∃ q, w' = w.drewN q := by
  unfold maxLen at hm hm'
  by_cases hl : la = lb
  · subst hl
    by_cases h0 : la = 0
    · subst h0
      obtain rfl := List.eq_nil_of_length_eq_zero hx
      obtain rfl := List.eq_nil_of_length_eq_zero hy
      go_enter Try.func13, Try.ntmps13
      go_wp2
      refine wp_loop_rounds 1 ?_; rw [rounds_succ]
      go_wp2
      go_ret
      exact ⟨rfl, 0, rfl⟩
    · obtain ⟨b1, o1, rfl, _⟩ := h1 0 (by omega)
      obtain ⟨b2, o2, rfl, _⟩ := h2 0 (by omega)
      refine same_core b1 o1 b2 o2 la ca cb xs ys hx hy w hm (fun i hi => ?_) (fun i hi => ?_)
      · obtain ⟨b, o, e, hc⟩ := h1 i (by omega)
        simp at e
        obtain ⟨rfl, rfl⟩ := e
        exact hc
      · obtain ⟨b, o, e, hc⟩ := h2 i (by omega)
        simp at e
        obtain ⟨rfl, rfl⟩ := e
        exact hc
  · have hne : xs ≠ ys := by rintro rfl; omega
    have hb : ((la : Int) != (lb : Int)) = true := by rw [bne_iff_ne]; omega
    go_enter Try.func13, Try.ntmps13
    go_wp2
    go_ret
    exact ⟨ret_bool (decide_eq_false hne).symm, 0, rfl⟩


theorem below_drewN {B : Nat} {a w : World} (h : Below B a w) (q : Nat) : Below B a (w.drewN q) := ⟨h.os, h.tape, h.output, h.size, h.block⟩

end Go.Proofs.Qxb6620837a
