/-
  THE WALKS: zzAddStrings (17), zzTableHolds (18), zzWindowStart (25), zzIsSuffix (35), zzMin (33).
-/
import Derived.Test.Qxb6620837aStrs
namespace Go.Proofs.Qxb6620837a
open Go.RowKit

open Win in
set_option maxHeartbeats 400000 in
theorem adds_core (b o n ca : Nat) (xs : List ByteArray) (hx : xs.length = n) (t0 : Nat) (ht0 : t0 ≤ 4194304) (w : World) (hm : n ≤ 9223372036854775807)
    (h1 : ∀ i, i < n → w.cell? ⟨b, o + i, none⟩ = some (.string (xs.getD i ByteArray.empty))) :
    Calls Try.prog 17 #[.int .i64 (t0 : Int), .slice (some ⟨b, o, none⟩) n ca] w fun e w' => (∃ t : Nat, e = .returned (.int .i64 (t : Int)) ∧ t ≤ 4194304 ∧ (t ≤ 1048576 → t = t0 + s16 xs)) ∧ w' = w := by
  go_enter Try.func17, Try.ntmps17
  go_wp2
  go_loop [0, 5] (fun s i => ∃ k t : Nat, k ≤ n ∧ i = .int .i64 k ∧ s = .int .i64 t ∧ t = t0 + s16 (xs.take k) ∧ t ≤ 4194304) (fun _ i => n - (intOf i).toNat)
  case atStart => exact ⟨0, t0, Nat.zero_le _, rfl, rfl, by simp [s16], ht0⟩
  case round =>
    obtain ⟨k, t, hk, rfl, rfl, ht, htb⟩ := hrel
    have HT : Hid (t = t0 + s16 (xs.take k)) := ht
    clear ht
    by_cases hlt : k < n
    · have g1 := h1 k hlt
      have hkx : k < xs.length := by omega
      rw [getS_lt _ _ hkx] at g1
      have HS : Hid (s16 (xs.take (k + 1)) = s16 (xs.take k) + (16 + xs[k].size)) := s16_take_succ xs k hkx
      generalize xs[k] = x at *
      clear h1
      have i1 : (0 : Int) ≤ (k : Int) := by omega
      have i2 : (k : Int) < (n : Int) := by omega
      by_cases c1 : t ≤ 1048576
      · by_cases c2 : x.size ≤ 1048576
        · go_wp2
          go_round
          case rel => exact ⟨k + 1, t + (16 + x.size), by omega, by go_num, by go_num, by have := HT.out; have := HS.out; omega, by omega⟩
          case measure => simp [intOf]; omega
        · go_wp2
          go_ret
          exact ⟨⟨1048577, rfl, by omega, fun h => by omega⟩, rfl⟩
      · go_wp2
        go_ret
        exact ⟨⟨1048577, rfl, by omega, fun h => by omega⟩, rfl⟩
    · go_wp2
      go_ret
      exact ⟨⟨t, rfl, htb, fun _ => by have h := HT.out; rwa [List.take_of_length_le (by omega)] at h⟩, rfl⟩

open Win in
/-- zzAddStrings -/
theorem adds_any (ao : Option Addr) (n ca : Nat) (xs : List ByteArray) (hx : xs.length = n) (t0 : Nat) (ht0 : t0 ≤ 4194304) (w : World) (hm : n ≤ maxLen) (h1 : StrsAt w ao xs) :
    Calls Try.prog 17 #[.int .i64 (t0 : Int), .slice ao n ca] w fun e w' => (∃ t : Nat, e = .returned (.int .i64 (t : Int)) ∧ t ≤ 4194304 ∧ (t ≤ 1048576 → t = t0 + s16 xs)) ∧ w' = w := by
  unfold maxLen at hm
  by_cases h0 : n = 0
  · subst h0
    obtain rfl := List.eq_nil_of_length_eq_zero hx
    go_enter Try.func17, Try.ntmps17
    go_wp2
    refine wp_loop_rounds 1 ?_; rw [rounds_succ]
    go_wp2
    go_ret
    exact ⟨⟨t0, rfl, ht0, fun _ => by simp [s16]⟩, rfl⟩
  · obtain ⟨b1, o1, rfl, c1⟩ := h1.at (by omega)
    rw [hx] at c1
    exact adds_core b1 o1 n ca xs hx t0 ht0 w hm c1

open Win in
/-- zzTableHolds, both slices of one length -/
theorem holds_eq (ao bo : Option Addr) (n ca cb : Nat) (fs : List Fld) (hx : fs.length = n) (hw : wt fs ≤ 4194304) (sz mx : Nat) (w : World) (hm : n ≤ maxLen)
    (h1 : StrsAt w ao (fs.map Prod.fst)) (h2 : StrsAt w bo (fs.map Prod.snd)) :
    Calls Try.prog 18 #[.slice ao n ca, .slice bo n cb, .int .u64 (sz : Int), .int .u64 (mx : Int)] w fun e w' => e = .returned (.bool (decide (sz = wt fs ∧ sz ≤ mx))) ∧ ∃ q, w' = w.drewN q := by
  have C := fsize_any ao bo n ca cb fs hx hw w hm h1 h2
  have hm' := hm
  unfold maxLen at hm'
  generalize wt fs = s at *
  have hnn : ((n : Int) == (n : Int)) = true := by simp
  by_cases c1 : sz = s
  · have hb : ((sz : Int) == (s : Int)) = true := by rw [beq_iff_eq]; omega
    have hd : decide (sz = s ∧ sz ≤ mx) = decide (sz ≤ mx) := by rw [decide_eq_decide]; omega
    rw [hd]
    clear hd c1
    go_enter Try.func18, Try.ntmps18
    go_wp2_with (go_at_call 27; refine C.mono ?_; rintro e w' ⟨rfl, q, rfl⟩)
    go_ret
    exact ⟨rfl, _, rfl⟩
  · have hb : ((sz : Int) == (s : Int)) = false := by rw [beq_eq_false_iff_ne]; omega
    have hd : decide (sz = s ∧ sz ≤ mx) = false := decide_eq_false fun h => c1 h.1
    rw [hd]
    clear hd
    go_enter Try.func18, Try.ntmps18
    go_wp2_with (go_at_call 27; refine C.mono ?_; rintro e w' ⟨rfl, q, rfl⟩)
    go_ret
    exact ⟨rfl, _, rfl⟩

/-- zzTableHolds, two slices of different lengths -/
theorem holds_ne (ao bo : Option Addr) (n m ca cb : Nat) (hne : n ≠ m) (sz mx : Int) (w : World) :
    Calls Try.prog 18 #[.slice ao n ca, .slice bo m cb, .int .u64 sz, .int .u64 mx] w fun e w' => e = .returned (.bool false) ∧ w' = w := by
  have hnn : ((n : Int) == (m : Int)) = false := by rw [beq_eq_false_iff_ne]; omega
  go_enter Try.func18, Try.ntmps18
  go_wp2_with fail
  go_ret
  exact ⟨rfl, rfl⟩

/-- zzMin -/
theorem min_any (a b : Nat) (w : World) : Calls Try.prog 33 #[.int .u64 (a : Int), .int .u64 (b : Int)] w fun e w' => e = .returned (.int .u64 ((min a b : Nat) : Int)) ∧ w' = w := by
  by_cases h : a < b
  · rw [Nat.min_eq_left (by omega)]
    go_enter Try.func33, Try.ntmps33
    go_wp2
    go_ret
    exact ⟨rfl, rfl⟩
  · rw [Nat.min_eq_right (by omega)]
    go_enter Try.func33, Try.ntmps33
    go_wp2
    go_ret
    exact ⟨rfl, rfl⟩


open Win in
set_option maxHeartbeats 400000 in
theorem win_core (b1 o1 b2 o2 n ca cb : Nat) (fs : List Fld) (hx : fs.length = n) (hw : wt fs ≤ 4194304) (lim : Nat) (hlim : lim < 18446744073709551616) (w : World) (hm : n ≤ 9223372036854775807)
    (h1 : ∀ i (h : i < fs.length), w.cell? ⟨b1, o1 + i, none⟩ = some (.string fs[i].1)) (h2 : ∀ i (h : i < fs.length), w.cell? ⟨b2, o2 + i, none⟩ = some (.string fs[i].2)) :
    Calls Try.prog 25 #[.slice (some ⟨b1, o1, none⟩) n ca, .slice (some ⟨b2, o2, none⟩) n cb, .int .u64 (lim : Int)] w fun e w' => (∃ i : Nat, e = .returned (.int .i64 (i : Int)) ∧ IsWin fs lim i) ∧ ∃ q, w' = w.drewN q := by
  go_enter Try.func25, Try.ntmps25
  go_wp2
  go_loopw [7, 8] (fun s i wr => ∃ k q : Nat, k ≤ n ∧ i = .int .i64 k ∧ wr = w.drewN q ∧ s = .int .u64 ((wt (fs.drop k) : Nat) : Int) ∧ wt (fs.drop k) ≤ lim) (fun _ i _ => (intOf i).toNat)
  case atStart => exact ⟨n, 0, Nat.le_refl _, rfl, rfl, by simp [← hx, wt], by simp [← hx, wt]⟩
  case round =>
    obtain ⟨k, q, hk, rfl, rfl, rfl, hle⟩ := hrel
    by_cases hlt : 0 < k
    · obtain ⟨j, rfl⟩ : ∃ j, k = j + 1 := ⟨k - 1, by omega⟩
      have hjf : j < fs.length := by omega
      have g1 := h1 j hjf
      have g2 := h2 j hjf
      have HS : Hid (wt (fs.drop j) = w1 fs[j] + wt (fs.drop (j + 1))) := wt_drop_succ fs j hjf
      have hle1 := w1_le_wt fs j hjf
      have hle2 := wt_drop_le fs j
      have hbd : w1 fs[j] + wt (fs.drop (j + 1)) ≤ 4194304 := by have := HS.out; omega
      generalize hf : fs[j] = f at *
      obtain ⟨a, b⟩ := f
      have ha : a.size ≤ 4194304 := by simp only [w1] at hle1; omega
      have hb : b.size ≤ 4194304 := by simp only [w1] at hle1; omega
      have CE := fun w => entry_any a b ha hb w
      clear hf hle2 h1 h2 hle1
      generalize hs0 : wt (fs.drop (j + 1)) = s0 at *
      have H0 : Hid (wt (fs.drop (j + 1)) = s0) := hs0
      generalize hw1 : w1 (a, b) = x at *
      clear hw1 hs0
      have i1 : (0 : Int) ≤ (j : Int) := by omega
      have i2 : (j : Int) < (n : Int) := by omega
      by_cases hfit : x ≤ lim - s0
      · have hfit' : (x : Int) ≤ (lim : Int) - s0 := by omega
        go_wp2
        go_quiet ((go_at_call 23; exact quiet2 (CE _)))
        go_wp2
        go_round
        case rel => exact ⟨j, _, by omega, by go_num, rfl, by rw [HS.out]; go_num, by have := HS.out; omega⟩
        case measure => simp [intOf]
      · have hfit' : (lim : Int) - s0 < (x : Int) := by omega
        go_wp2
        go_quiet ((go_at_call 23; exact quiet2 (CE _)))
        go_wp2
        go_ret
        exact ⟨⟨j + 1, rfl, by omega, by rw [H0.out]; exact hle, fun _ => by rw [Nat.add_sub_cancel, HS.out]; omega⟩, _, rfl⟩
    · go_wp2
      go_ret
      obtain rfl : k = 0 := by omega
      exact ⟨⟨0, rfl, by omega, hle, fun h => by omega⟩, q, rfl⟩

open Win in
/-- zzWindowStart -/
theorem win_any (ao bo : Option Addr) (n ca cb : Nat) (fs : List Fld) (hx : fs.length = n) (hw : wt fs ≤ 4194304) (lim : Nat) (hlim : lim < 18446744073709551616) (w : World) (hm : n ≤ maxLen)
    (h1 : StrsAt w ao (fs.map Prod.fst)) (h2 : StrsAt w bo (fs.map Prod.snd)) :
    Calls Try.prog 25 #[.slice ao n ca, .slice bo n cb, .int .u64 (lim : Int)] w fun e w' => (∃ i : Nat, e = .returned (.int .i64 (i : Int)) ∧ IsWin fs lim i) ∧ ∃ q, w' = w.drewN q := by
  unfold maxLen at hm
  by_cases h0 : n = 0
  · subst h0
    obtain rfl := List.eq_nil_of_length_eq_zero hx
    go_enter Try.func25, Try.ntmps25
    go_wp2
    refine wp_loop_rounds 1 ?_; rw [rounds_succ]
    go_wp2
    go_ret
    exact ⟨⟨0, rfl, IsWin.zero (by simp [wt])⟩, 0, rfl⟩
  · obtain ⟨b1, o1, rfl, c1⟩ := h1.at (by simp; omega)
    obtain ⟨b2, o2, rfl, c2⟩ := h2.at (by simp; omega)
    exact win_core b1 o1 b2 o2 n ca cb fs hx hw lim hlim w hm (fun i h => by simpa [h] using c1 i (by simpa using h)) (fun i h => by simpa [h] using c2 i (by simpa using h))

end Go.Proofs.Qxb6620837a
