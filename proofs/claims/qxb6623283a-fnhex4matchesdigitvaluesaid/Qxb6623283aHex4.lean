/-
  THE WALKS: hex4 (7), ZZhex4 (6).
-/
import Derived.Test.Qxb6623283aHex
namespace Go.Proofs.Qxb6623283a
open Go.RowKit

/-- Byte j of a string, as a number. -/
def byAt (s : ByteArray) (j : Nat) : Int := if h : j < s.size then ((s[j].toNat : Nat) : Int) else 0

/-- The value of m digits from place i on. -/
def vals (s : ByteArray) (i : Nat) : Nat → Int
  | 0 => 0
  | m + 1 => vals s i m * 16 + hv (byAt s (i + m))

def Oks (s : ByteArray) (i m : Nat) : Prop := ∀ t, t < m → 0 ≤ hv (byAt s (i + t))

theorem vals_bound (s : ByteArray) (i m : Nat) (h : Oks s i m) (hm : m ≤ 4) : 0 ≤ vals s i m ∧ vals s i m < 65536 ∧ (m ≤ 3 → vals s i m < 4096) := by
  have b := fun t => hv_le (byAt s (i + t))
  have hm' : m = 0 ∨ m = 1 ∨ m = 2 ∨ m = 3 ∨ m = 4 := by omega
  rcases hm' with rfl | rfl | rfl | rfl | rfl
  · simp [vals]
  · have := h 0 (by omega); have := b 0; simp only [vals]; omega
  · have := h 0 (by omega); have := b 0; have := h 1 (by omega); have := b 1; simp only [vals]; omega
  · have := h 0 (by omega); have := b 0; have := h 1 (by omega); have := b 1; have := h 2 (by omega); have := b 2; simp only [vals]; omega
  · have := h 0 (by omega); have := b 0; have := h 1 (by omega); have := b 1; have := h 2 (by omega); have := b 2; have := h 3 (by omega); have := b 3; simp only [vals]; omega

/-- What hex4 answers where four bytes are there. -/
def Hex4Res (s : ByteArray) (i : Nat) (e : Ending) : Prop := (e = .returned (.tuple #[.int .i32 (vals s i 4), .bool true]) ∧ Oks s i 4) ∨ (e = .returned (.tuple #[.int .i32 0, .bool false]) ∧ ¬ Oks s i 4)

theorem or4 (r y : Int) (h0 : 0 ≤ r) (h1 : r < 4096) (h2 : 0 ≤ y) (h3 : y ≤ 15) : bits BinOp.or IntKind.i32 (r * 16) y = r * 16 + y :=
  bits_join .i32 31 (by decide) wraps_i32 4 (r * 16) y (by omega) (by omega) (by omega) h2 (by omega) (by omega)

theorem next_ok {s : ByteArray} {i m : Nat} (h : Oks s i m) (hc : 0 ≤ hv (byAt s (i + m))) : Oks s i (m + 1) := by
  intro t ht
  by_cases e : t = m
  · rw [e]; exact hc
  · exact h t (by omega)

/-- A round that found a digit. -/
theorem next_val {s : ByteArray} {i m : Nat} {r0 c x : Int} (hb : byAt s (i + m) = c) (hv1 : vals s i (m + 1) = r0 * 16 + hv (byAt s (i + m))) (h0 : 0 ≤ r0) (h1 : r0 < 4096)
    (hc : (x = 48 ∧ 48 ≤ c ∧ c ≤ 57) ∨ (x = 87 ∧ 97 ≤ c ∧ c ≤ 102) ∨ (x = 55 ∧ 65 ≤ c ∧ c ≤ 70)) : bits BinOp.or IntKind.i32 (r0 * 16) (c - x) = vals s i (m + 1) ∧ 0 ≤ hv (byAt s (i + m)) := by
  have e : hv c = c - x := by
    unfold hv
    rcases hc with ⟨rfl, a, b⟩ | ⟨rfl, a, b⟩ | ⟨rfl, a, b⟩
    · rw [if_pos (by omega)]
    · rw [if_neg (by omega), if_pos (by omega)]
    · rw [if_neg (by omega), if_neg (by omega), if_pos (by omega)]
  rw [hv1, hb, e, or4 r0 (c - x) h0 h1 (by omega) (by omega)]
  exact ⟨rfl, by omega⟩

/-- A round that found none. -/
theorem no_digit {s : ByteArray} {i m : Nat} {c : Int} (hm : m < 4) (hb : byAt s (i + m) = c) (h1 : ¬ (48 ≤ c ∧ c ≤ 57)) (h2 : ¬ (97 ≤ c ∧ c ≤ 102)) (h3 : ¬ (65 ≤ c ∧ c ≤ 70)) : ¬ Oks s i 4 := by
  intro h
  have := h m hm
  rw [hb, hv, if_neg h1, if_neg h2, if_neg h3] at this
  omega

set_option maxHeartbeats 1000000 in
set_option maxRecDepth 100000 in
theorem hex4_long (s : ByteArray) (i : Nat) (hs : s.size ≤ 1048576) (hi : i + 4 ≤ s.size) (w : World) : Calls Try.prog 7 #[.string s, .int .i64 (i : Int)] w fun e w' => Hex4Res s i e ∧ w' = w := by
  go_enter Try.func7, Try.ntmps7
  go_wp2
  go_loop [6, 7] (fun r j => ∃ m : Nat, m ≤ 4 ∧ j = .int .i64 ((i : Int) + m) ∧ r = .int .i32 (vals s i m) ∧ Hid (Oks s i m)) (fun _ j => i + 4 - (intOf j).toNat)
  case atStart => exact ⟨0, by omega, by go_num, rfl, fun t ht => by omega⟩
  case round =>
    obtain ⟨m, hm, rfl, rfl, HO⟩ := hrel
    obtain ⟨v0, v1, v2⟩ := vals_bound s i m HO.out hm
    by_cases hlt : m < 4
    · have v3 := v2 (by omega)
      have hjs : i + m < s.size := by omega
      have HB : Hid (byAt s (i + m) = ((s[i + m].toNat : Nat) : Int)) := by show _ = _; unfold byAt; rw [dif_pos hjs]
      have HV : Hid (vals s i (m + 1) = vals s i m * 16 + hv (byAt s (i + m))) := rfl
      clear v2
      generalize vals s i m = r0 at *
      go_wp2
      all_goals first
        | (go_round
           case rel =>
             obtain ⟨q1, q2⟩ := next_val (x := 48) HB.out HV.out v0 v3 (by omega)
             exact ⟨m + 1, by omega, by go_num, congrArg (Value.int .i32) q1, next_ok HO.out q2⟩
           case measure => simp [intOf]; omega)
        | (go_round
           case rel =>
             obtain ⟨q1, q2⟩ := next_val (x := 87) HB.out HV.out v0 v3 (by omega)
             exact ⟨m + 1, by omega, by go_num, congrArg (Value.int .i32) q1, next_ok HO.out q2⟩
           case measure => simp [intOf]; omega)
        | (go_round
           case rel =>
             obtain ⟨q1, q2⟩ := next_val (x := 55) HB.out HV.out v0 v3 (by omega)
             exact ⟨m + 1, by omega, by go_num, congrArg (Value.int .i32) q1, next_ok HO.out q2⟩
           case measure => simp [intOf]; omega)
        | (go_ret2
           exact ⟨.inr ⟨rfl, no_digit hlt HB.out (by omega) (by omega) (by omega)⟩, rfl⟩)
    · go_wp2
      go_ret2
      obtain rfl : m = 4 := by omega
      exact ⟨.inl ⟨rfl, HO.out⟩, rfl⟩

theorem hex4_short (s : ByteArray) (i : Nat) (hs : s.size ≤ 1048576) (hi : i ≤ s.size) (h4 : s.size < i + 4) (w : World) : Calls Try.prog 7 #[.string s, .int .i64 (i : Int)] w fun e w' => e = .returned (.tuple #[.int .i32 0, .bool false]) ∧ w' = w := by
  go_enter Try.func7, Try.ntmps7
  go_wp2
  go_ret2
  exact ⟨rfl, rfl⟩

theorem zhex4_long (s : ByteArray) (i : Nat) (hs : s.size ≤ 1048576) (hi : i + 4 ≤ s.size) (w : World) : Calls Try.prog 6 #[.string s, .int .i64 (i : Int)] w fun e w' => Hex4Res s i e ∧ w' = w := by
  have C := hex4_long s i hs hi w
  go_enter Try.func6, Try.ntmps6
  go_wp2_with fail
  refine C.mono ?_
  rintro e w' ⟨h | h, rfl⟩
  · obtain ⟨rfl, ho⟩ := h
    have HO : Hid (Oks s i 4) := ho
    clear ho
    go_wp2
    go_ret2
    exact ⟨.inl ⟨rfl, HO.out⟩, rfl⟩
  · obtain ⟨rfl, ho⟩ := h
    have HO : Hid (¬ Oks s i 4) := ho
    clear ho
    go_wp2
    go_ret2
    exact ⟨.inr ⟨rfl, HO.out⟩, rfl⟩

theorem zhex4_short (s : ByteArray) (i : Nat) (hs : s.size ≤ 1048576) (hi : i ≤ s.size) (h4 : s.size < i + 4) (w : World) : Calls Try.prog 6 #[.string s, .int .i64 (i : Int)] w fun e w' => e = .returned (.tuple #[.int .i32 0, .bool false]) ∧ w' = w := by
  have C := hex4_short s i hs hi h4 w
  go_enter Try.func6, Try.ntmps6
  go_wp2_with fail
  refine C.mono ?_
  rintro e w' ⟨rfl, rfl⟩
  go_wp2
  go_ret2
  exact ⟨rfl, rfl⟩

end Go.Proofs.Qxb6623283a
