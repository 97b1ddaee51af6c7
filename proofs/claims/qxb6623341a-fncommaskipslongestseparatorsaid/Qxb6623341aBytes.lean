/-
  THE WALKS of the seat's byte functions: zzBytes (4), zzSpace (5), zzEqual (9), isJSONSpace (13); the plain words.
-/
import Derived.Test.Qxb6623341aProg
import Derived.WalkKit
import Derived.WalkSpells
import Derived.RowKit3
import Derived.KernelRfl
import Derived.Deep.QuietTactic
import Derived.BigQuiet
import Derived.Below
namespace Go.Proofs.Qxb6623341a
open Go.RowKit

/-- JSON's four spaces. -/
def sp (b : Int) : Bool := b == 32 || b == 9 || b == 10 || b == 13

theorem zspace_any (c : Int) (w : World) : Calls Try.prog 5 #[.int .u8 c] w fun e w' => e = .returned (.bool (sp c)) ∧ w' = w := by
  by_cases h1 : c = 32
  · subst h1
    go_enter Try.func5, Try.ntmps5
    go_wp2
    go_ret
    exact ⟨rfl, rfl⟩
  by_cases h2 : c = 9
  · subst h2
    go_enter Try.func5, Try.ntmps5
    go_wp2
    go_ret
    exact ⟨rfl, rfl⟩
  by_cases h3 : c = 10
  · subst h3
    go_enter Try.func5, Try.ntmps5
    go_wp2
    go_ret
    exact ⟨rfl, rfl⟩
  by_cases h4 : c = 13
  · subst h4
    go_enter Try.func5, Try.ntmps5
    go_wp2
    go_ret
    exact ⟨rfl, rfl⟩
  have e : sp c = false := by simp [sp, h1, h2, h3, h4]
  rw [e]
  have k1 : (c == 32) = false := by simpa using h1
  have k2 : (c == 9) = false := by simpa using h2
  have k3 : (c == 10) = false := by simpa using h3
  have k4 : (c == 13) = false := by simpa using h4
  clear h1 h2 h3 h4 e
  go_enter Try.func5, Try.ntmps5
  go_wp2
  go_ret
  exact ⟨rfl, rfl⟩

theorem jspace_any (c : Int) (w : World) : Calls Try.prog 13 #[.int .u8 c] w fun e w' => e = .returned (.bool (sp c)) ∧ w' = w := by
  by_cases h1 : c = 32
  · subst h1
    go_enter Try.func13, Try.ntmps13
    go_wp2
    go_ret
    exact ⟨rfl, rfl⟩
  by_cases h2 : c = 9
  · subst h2
    go_enter Try.func13, Try.ntmps13
    go_wp2
    go_ret
    exact ⟨rfl, rfl⟩
  by_cases h3 : c = 10
  · subst h3
    go_enter Try.func13, Try.ntmps13
    go_wp2
    go_ret
    exact ⟨rfl, rfl⟩
  by_cases h4 : c = 13
  · subst h4
    go_enter Try.func13, Try.ntmps13
    go_wp2
    go_ret
    exact ⟨rfl, rfl⟩
  have e : sp c = false := by simp [sp, h1, h2, h3, h4]
  rw [e]
  have k1 : (c == 32) = false := by simpa using h1
  have k2 : (c == 9) = false := by simpa using h2
  have k3 : (c == 10) = false := by simpa using h3
  have k4 : (c == 13) = false := by simpa using h4
  clear h1 h2 h3 h4 e
  by_cases h : c ≤ 32
  · go_enter Try.func13, Try.ntmps13
    go_wp2
    go_ret
    exact ⟨rfl, rfl⟩
  · go_enter Try.func13, Try.ntmps13
    go_wp2
    go_ret
    exact ⟨rfl, rfl⟩

def IsBool (e : Ending) : Prop := ∃ b, e = .returned (.bool b)
theorem isBool_mk (b : Bool) : IsBool (.returned (.bool b)) := ⟨b, rfl⟩

theorem bytes4 (a : Option Addr) (n c : Nat) (x y : Value) (s : ByteArray) (w : World) :
    Calls Try.prog 4 #[.slice a n c, x, y, .string s] w fun e w' => IsBool e ∧ w' = w := by
  by_cases p1 : n ≤ 1048576
  · by_cases p2 : s.size ≤ 1048576
    · by_cases p3 : n + s.size ≤ 1048576
      · go_enter Try.func4, Try.ntmps4
        go_wp2
        go_ret
        exact ⟨isBool_mk _, rfl⟩
      · go_enter Try.func4, Try.ntmps4
        go_wp2
        go_ret
        exact ⟨isBool_mk _, rfl⟩
    · go_enter Try.func4, Try.ntmps4
      go_wp2
      go_ret
      exact ⟨isBool_mk _, rfl⟩
  · go_enter Try.func4, Try.ntmps4
    go_wp2
    go_ret
    exact ⟨isBool_mk _, rfl⟩

/-- What is known of a slice of bytes. -/
def BytesAt (w : World) (ao : Option Addr) (xs : List Int) : Prop :=
  ∀ i, i < xs.length → ∃ b o, ao = some ⟨b, o, none⟩ ∧ w.cell? ⟨b, o + i, none⟩ = some (.int .u8 (xs.getD i 0))

theorem BytesAt.alike {w : World} {ao : Option Addr} {xs : List Int} (h : BytesAt w ao xs) (n : Nat) : BytesAt (w.drewN n) ao xs := by
  intro i hi
  obtain ⟨b, o, e, hc⟩ := h i hi
  exact ⟨b, o, e, by simpa using hc⟩

theorem ret_bool {a b : Bool} (h : a = b) : Ending.returned (.bool a) = .returned (.bool b) := by rw [h]
theorem getD_lt (xs : List Int) (k : Nat) (h : k < xs.length) : xs.getD k 0 = xs[k] := by simp [h]
theorem ne_of_at (xs ys : List Int) (k : Nat) (h1 : k < xs.length) (h2 : k < ys.length) (h : (xs[k] != ys[k]) = true) : false = decide (xs = ys) := by
  symm
  rw [decide_eq_false_iff_not]
  rintro rfl
  simp at h

theorem eq_of_all (xs ys : List Int) (n : Nat) (h1 : xs.length = n) (h2 : ys.length = n) (h : ∀ j, j < n → xs.getD j 0 = ys.getD j 0) : xs = ys := by
  refine List.ext_getElem (by omega) fun i a b => ?_
  have := h i (by omega)
  rwa [getD_lt _ _ a, getD_lt _ _ b] at this

theorem upto_succ {P : Nat → Prop} {k : Nat} (h : ∀ j, j < k → P j) (hk : P k) : ∀ j, j < k + 1 → P j := fun j hj =>
  if e : j = k then e ▸ hk else h j (by omega)

set_option maxHeartbeats 400000 in
theorem same_core (b1 o1 b2 o2 n ca cb : Nat) (xs ys : List Int) (hx : xs.length = n) (hy : ys.length = n) (w : World) (hm : n ≤ 9223372036854775807)
    (h1 : ∀ i, i < n → w.cell? ⟨b1, o1 + i, none⟩ = some (.int .u8 (xs.getD i 0))) (h2 : ∀ i, i < n → w.cell? ⟨b2, o2 + i, none⟩ = some (.int .u8 (ys.getD i 0))) :
    Calls Try.prog 9 #[.slice (some ⟨b1, o1, none⟩) n ca, .slice (some ⟨b2, o2, none⟩) n cb] w fun e w' => e = .returned (.bool (decide (xs = ys))) ∧ ∃ q, w' = w.drewN q := by
  go_enter Try.func9, Try.ntmps9
  go_wp2
  go_loopw [5] (fun i wr => ∃ k q : Nat, k ≤ n ∧ i = .int .i64 k ∧ wr = w.drewN q ∧ ∀ j, j < k → xs.getD j 0 = ys.getD j 0) (fun i _ => n - (intOf i).toNat)
  case atStart => exact ⟨0, 0, Nat.zero_le _, rfl, rfl, fun j hj => by omega⟩
  case round =>
    obtain ⟨k, q, hk, rfl, rfl, heq⟩ := hrel
    have HE : Hid (∀ j, j < k → xs.getD j 0 = ys.getD j 0) := heq
    clear heq
    by_cases hlt : k < n
    · have g1 := h1 k hlt
      have g2 := h2 k hlt
      have i1 : (0 : Int) ≤ (k : Int) := by omega
      have i2 : (k : Int) < (n : Int) := by omega
      go_wp2
      go_quiet (fail)
      go_wp2
      · go_ret
        exact ⟨ret_bool (ne_of_at xs ys k (by omega) (by omega) (by assumption)), q + nq, by simp⟩
      · go_round
        case rel => exact ⟨k + 1, _, by omega, by go_num, rfl, upto_succ HE.out (by
          have h : (xs[k] != ys[k]) = false := by assumption
          rw [getD_lt _ _ (by omega), getD_lt _ _ (by omega)]
          simpa using h)⟩
        case measure => simp [intOf]; omega
    · go_wp2
      go_ret
      have e : k = n := by omega
      subst e
      exact ⟨ret_bool (decide_eq_true (eq_of_all xs ys _ hx hy HE.out)).symm, q, rfl⟩

theorem same_any (ao bo : Option Addr) (la lb ca cb : Nat) (xs ys : List Int) (hx : xs.length = la) (hy : ys.length = lb) (w : World) (hm : la ≤ maxLen) (hm' : lb ≤ maxLen)
    (h1 : BytesAt w ao xs) (h2 : BytesAt w bo ys) :
    Calls Try.prog 9 #[.slice ao la ca, .slice bo lb cb] w fun e w' => e = .returned (.bool (decide (xs = ys))) ∧ ∃ q, w' = w.drewN q := by
  unfold maxLen at hm hm'
  by_cases hl : la = lb
  · subst hl
    by_cases h0 : la = 0
    · subst h0
      obtain rfl := List.eq_nil_of_length_eq_zero hx
      obtain rfl := List.eq_nil_of_length_eq_zero hy
      go_enter Try.func9, Try.ntmps9
      go_wp2
      refine wp_loop_rounds 1 ?_; rw [rounds_succ]
      go_wp2
      go_ret
      exact ⟨rfl, 0, rfl⟩
    · obtain ⟨b1, o1, rfl, _⟩ := h1 0 (by omega)
      obtain ⟨b2, o2, rfl, _⟩ := h2 0 (by omega)
      refine same_core b1 o1 b2 o2 la ca cb xs ys hx hy w hm (fun i hi => ?_) (fun i hi => ?_)
      · obtain ⟨b, o, e, hc⟩ := h1 i (by omega)
        simp at e
        obtain ⟨rfl, rfl⟩ := e
        exact hc
      · obtain ⟨b, o, e, hc⟩ := h2 i (by omega)
        simp at e
        obtain ⟨rfl, rfl⟩ := e
        exact hc
  · have hne : xs ≠ ys := by rintro rfl; omega
    have hb : ((la : Int) != (lb : Int)) = true := by rw [bne_iff_ne]; omega
    go_enter Try.func9, Try.ntmps9
    go_wp2
    go_ret
    exact ⟨ret_bool (decide_eq_false hne).symm, 0, rfl⟩


theorem below_drewN {B : Nat} {a w : World} (h : Below B a w) (q : Nat) : Below B a (w.drewN q) := ⟨h.os, h.tape, h.output, h.size, h.block⟩

end Go.Proofs.Qxb6623341a
