/-
  THE LAW's WALK: FnCommaSkipsLongestSeparator (3).
-/
import Derived.Test.Qxb6623341aPlain
namespace Go.Proofs.Qxb6623341a
open Go.RowKit

/-- What the first loop has seen below k. -/
def Seen (xs : List Int) (i k m : Nat) (pl : Bool) : Prop :=
  (1 ≤ m → ∃ a, i ≤ a ∧ a < k ∧ sp (xs.getD a 0) = false) ∧ (2 ≤ m → ∃ a b, i ≤ a ∧ a < b ∧ b < k ∧ sp (xs.getD a 0) = false ∧ sp (xs.getD b 0) = false) ∧ (pl = true → ∃ a, i ≤ a ∧ a < k ∧ sp (xs.getD a 0) = false ∧ xs.getD a 0 ≠ 44)

theorem Seen.zero (xs : List Int) (i : Nat) : Seen xs i i 0 false := ⟨fun h => by omega, fun h => by omega, fun h => by cases h⟩

theorem Seen.pass {xs : List Int} {i k m : Nat} {pl : Bool} (h : Seen xs i k m pl) : Seen xs i (k + 1) m pl := by
  obtain ⟨h1, h2, h3⟩ := h
  refine ⟨fun e => ?_, fun e => ?_, fun e => ?_⟩
  · obtain ⟨a, p, q, r⟩ := h1 e
    exact ⟨a, p, by omega, r⟩
  · obtain ⟨a, b, p, q, r, t⟩ := h2 e
    exact ⟨a, b, p, q, by omega, t⟩
  · obtain ⟨a, p, q, r⟩ := h3 e
    exact ⟨a, p, by omega, r⟩

theorem Seen.hit {xs : List Int} {i k m : Nat} {pl pl' : Bool} (h : Seen xs i k m pl) (hik : i ≤ k) (hk : sp (xs.getD k 0) = false) (hp : pl' = true → pl = true ∨ xs.getD k 0 ≠ 44) : Seen xs i (k + 1) (m + 1) pl' := by
  obtain ⟨h1, h2, h3⟩ := h
  refine ⟨fun e => ⟨k, hik, by omega, hk⟩, fun e => ?_, fun e => ?_⟩
  · obtain ⟨a, p, q, r⟩ := h1 (by omega)
    exact ⟨a, k, p, q, by omega, r, hk⟩
  · rcases hp e with e | e
    · obtain ⟨a, p, q, r⟩ := h3 e
      exact ⟨a, p, by omega, r⟩
    · exact ⟨k, hik, by omega, hk, e⟩

theorem seg_cells {w : World} {b : Nat} {xs : List Int} {i r : Nat} (h : BytesAt w (some ⟨b, 0, none⟩) xs) (hr : r ≤ xs.length) : Hid (∀ k (hk : k < (seg xs i r).length), w.cell? ⟨b, i + k, none⟩ = some (.int .u8 (seg xs i r)[k])) := by
  intro k hk
  have hl : i + k < xs.length := by rw [seg_length hr] at hk; omega
  have := h.cell (i + k) hl
  rw [Nat.zero_add] at this
  rw [this, seg_get, getD_lt _ _ hl]

set_option maxRecDepth 100000 in
set_option maxHeartbeats 3000000 in
theorem law_in (b o n ca : Nat) (xs : List Int) (hx : xs.length = n) (hmax : n ≤ 9223372036854775807) (i : Nat) (hi : i < n) (k : Int) (s : ByteArray) (w : World)
    (HC : Hid (BytesAt w (some ⟨b, o, none⟩) xs)) :
    Calls Try.prog 3 #[.slice (some ⟨b, o, none⟩) n ca, .int .i64 (i : Int), .int .i64 k, .string s] w fun e w' => e = .returned (.bool true) ∧ Below w.heap.size w w' := by
  have CB := bytes4 (some ⟨b, o, none⟩) n ca (.int .i64 (i : Int)) (.int .i64 k) s w
  have C5 := fun c w => zspace_any c w
  go_enter Try.func3, Try.ntmps3
  go_wp2_with fail
  refine CB.mono ?_
  rintro e w0 ⟨⟨bb, rfl⟩, rfl⟩
  clear CB
  cases bb with
  | false =>
    go_wp2_with fail
    go_ret
    exact ⟨rfl, Below.refl _ _⟩
  | true =>
    by_cases p1 : n ≤ 1048576
    rotate_left
    · go_wp2_with fail
      go_ret
      exact ⟨rfl, Below.refl _ _⟩
    by_cases p2 : s.size ≤ 1048576
    rotate_left
    · go_wp2_with fail
      go_ret
      exact ⟨rfl, Below.refl _ _⟩
    by_cases p3 : n + s.size ≤ 1048576
    rotate_left
    · go_wp2_with fail
      go_ret
      exact ⟨rfl, Below.refl _ _⟩
    have j1 : (0 : Int) ≤ (i : Int) := by omega
    have j2 : (i : Int) < (n : Int) := by omega
    have j3 : decide (n ≤ i) = false := by simp; omega
    go_wp2_with fail
    go_loop [11, 9, 10] (fun vi vm vp => ∃ (j m : Nat) (pl : Bool), i ≤ j ∧ j ≤ n ∧ m ≤ j ∧ vi = .int .i64 (j : Int) ∧ vm = .int .i64 (m : Int) ∧ vp = .bool pl ∧ Hid (Seen xs i j m pl)) (fun vi _ _ => n - (intOf vi).toNat)
    case atStart => exact ⟨i, 0, false, Nat.le_refl _, by omega, by omega, rfl, rfl, rfl, Seen.zero xs i⟩
    case round =>
      obtain ⟨j, m, pl, hij, hjn, hmj, rfl, rfl, rfl, HS⟩ := hrel
      by_cases hlt : j < n
      · have hkf : j < xs.length := by omega
        have g1 := HC.out.cell j hkf
        have i1 : (0 : Int) ≤ (j : Int) := by omega
        have i2 : (j : Int) < (n : Int) := by omega
        have hgd := getD_lt xs j hkf
        have C' := fun w => C5 xs[j] w
        generalize hf : xs[j] = f at *
        have HGD : Hid (xs.getD j 0 = f) := hgd
        clear hf C5 hgd
        cases hs : sp f with
        | true =>
          rw [hs] at C'
          go_wp2_with fail
          refine (C' _).mono ?_
          rintro e w' ⟨rfl, rfl⟩
          go_wp2_with fail
          go_round
          case rel => exact ⟨j + 1, m, pl, by omega, by omega, by omega, by go_num, rfl, rfl, HS.out.pass⟩
          case measure => simp [intOf]; omega
        | false =>
          rw [hs] at C'
          by_cases h44 : f = 44
          · have HF : Hid (f = 44) := h44
            have k44 : (f != 44) = false := by simpa using h44
            clear h44
            go_wp2_with fail
            refine (C' _).mono ?_
            rintro e w' ⟨rfl, rfl⟩
            go_wp2_with fail
            go_round
            case rel => exact ⟨j + 1, m + 1, pl, by omega, by omega, by omega, by go_num, by go_num, rfl, HS.out.hit hij (by rw [HGD.out]; exact hs) (fun h => .inl h)⟩
            case measure => simp [intOf]; omega
          · have k44 : (f != 44) = true := by simpa using h44
            go_wp2_with fail
            refine (C' _).mono ?_
            rintro e w' ⟨rfl, rfl⟩
            go_wp2_with fail
            go_round
            case rel => exact ⟨j + 1, m + 1, true, by omega, by omega, by omega, by go_num, by go_num, rfl, HS.out.hit hij (by rw [HGD.out]; exact hs) (fun _ => .inr (by rw [HGD.out]; exact h44))⟩
            case measure => simp [intOf]; omega
      · obtain rfl : j = n := by omega
        have CL := fun W (h : BytesAt W (some ⟨b, o, none⟩) xs) => clone_any b o j ca xs hx p1 W h
        have CL2 := fun W b2 (h : BytesAt W (some ⟨b2, 0, none⟩) xs) => clone_any b2 0 j j xs hx p1 W h
        by_cases h2 : m < 2
        · cases pl with
          | false =>
            go_wp2_with fail
            go_ret
            exact ⟨rfl, Below.refl _ _⟩
          | true =>
            have HD : Hid (Dom xs i) := .inr (by rw [hx]; exact HS.out.2.2 rfl)
            go_wp2_with fail
            refine (CL _ HC.out).mono ?_
            rintro e w1 ⟨rfl, hb1, hB1⟩
            have B1 := hb1
            have HB1 : Hid (Below w0.heap.size w0 w1) := hB1
            clear hB1 CL C5
            go_wp2_with fail
            refine (CL2 w1 w0.heap.size hb1).mono ?_
            rintro e w2 ⟨rfl, hb2, hB2⟩
            have hb1 := hb1.below hB2
            have HB2 : Hid (Below w0.heap.size w0 w2) := HB1.out.trans (hB2.mono HB1.out.size)
            have hl0 : w0.heap.size < w2.heap.size := by have := block_lt_of_cell (hb1.cell 0 (by omega)); simpa using this
            have CZ := zcomma_any w0.heap.size 0 j i s xs hx p1 (by omega) (by have := HD.out.some; rwa [hx] at this) w2 hl0 (fun k hk => hb1.cell k hk)
            clear CL2 hB2 B1
            go_wp2_with fail
            refine CZ.mono ?_
            rintro e w3 ⟨⟨r, rfl, hr⟩, hB3⟩
            have HR : Hid (IsSep xs i r) := hr
            have hrl := hr.lt HD.out
            rw [hx] at hrl
            obtain ⟨r1, r2⟩ := hrl
            have r1' : (i : Int) ≤ (r : Int) := by omega
            have r2' : (r : Int) < (j : Int) := by omega
            have hb1 := hb1.below hB3
            have hb2 := hb2.below hB3
            have HB3 : Hid (Below w0.heap.size w0 w3) := HB2.out.trans (hB3.mono HB2.out.size)
            have hl3 : w0.heap.size < w3.heap.size := Nat.lt_of_lt_of_le hl0 hB3.size
            have S1 := skip_core w1.heap.size i (r - i) (j - i) (seg xs i r) (seg_length (by omega)) (by omega) w3 (seg_cells hb2 (by omega))
            have S2 := skip_core w1.heap.size i (r + 1 - i) (j - i) (seg xs i (r + 1)) (seg_length (by omega)) (by omega) w3 (seg_cells hb2 (by omega))
            have S3 := same_any (some ⟨w0.heap.size, 0, none⟩) (some ⟨w1.heap.size, 0, none⟩) j j j j xs xs hx hx w3 (by unfold maxLen; omega) (by unfold maxLen; omega) hb1 hb2
            rw [hr.skips (by omega)] at S1
            rw [hr.stops (by omega)] at S2
            rw [decide_eq_true rfl] at S3
            have HC1 : Hid (BytesAt w3 (some ⟨w0.heap.size, 0, none⟩) xs ∧ BytesAt w3 (some ⟨w1.heap.size, 0, none⟩) xs) := ⟨hb1, hb2⟩
            clear hr hB3 hb1 hb2 CZ HC hl0
            go_wp2_with fail
            refine S1.mono ?_
            rintro e w4 ⟨rfl, rfl⟩
            go_wp2_with fail
            refine S2.mono ?_
            rintro e w5 ⟨rfl, rfl⟩
            go_wp2_with fail
            refine S3.mono ?_
            rintro e w6 ⟨rfl, q, rfl⟩
            clear S1 S2 S3
            by_cases hk1 : (i : Int) ≤ k
            rotate_left
            · go_wp2_with fail
              go_ret
              exact ⟨rfl, below_drewN HB3.out _⟩
            by_cases hk2 : k < (j : Int)
            rotate_left
            · go_wp2_with fail
              go_ret
              exact ⟨rfl, below_drewN HB3.out _⟩
            obtain ⟨kk, rfl⟩ := Int.eq_ofNat_of_zero_le (show (0 : Int) ≤ k by omega)
            have hk1' : i ≤ kk := by omega
            have hk2' : kk < j := by omega
            have C10 := allsp_core w1.heap.size i (kk - i) (j - i) (seg xs i kk) (seg_length (by omega)) (by omega) (w5.drewN q) (seg_cells (HC1.out.2.alike q) (by omega))
            cases hall : (seg xs i kk).all sp with
            | false =>
              rw [hall] at C10
              go_wp2_with fail
              refine C10.mono ?_
              rintro e w6 ⟨rfl, rfl⟩
              go_wp2_with fail
              go_ret
              exact ⟨rfl, below_drewN HB3.out _⟩
            | true =>
              rw [hall] at C10
              obtain ⟨hs1, hs2⟩ := HR.out.later hk1' (seg_allsp (by omega) hall)
              rw [hx] at hs2
              have CZ := zcomma_any w0.heap.size 0 j kk s xs hx p1 (by omega) hs2 (w5.drewN q) hl3 (fun k hk => (HC1.out.1.alike q).cell k hk)
              have HS1 : Hid (IsSep xs kk r) := hs1
              clear hs1 hs2
              go_wp2_with fail
              refine C10.mono ?_
              rintro e w6 ⟨rfl, rfl⟩
              go_wp2_with fail
              refine CZ.mono ?_
              rintro e w7 ⟨⟨rr, rfl, hrr⟩, hB7⟩
              obtain rfl := HS1.out.uniq hrr
              clear hrr
              have hrb : ((r : Int) != (r : Int)) = false := by simp
              go_wp2_with fail
              go_ret
              exact ⟨rfl, (below_drewN HB3.out q).trans (hB7.mono (below_drewN HB3.out q).size)⟩
        · have HD : Hid (Dom xs i) := .inl (by rw [hx]; exact HS.out.2.1 (by omega))
          go_wp2_with fail
          refine (CL _ HC.out).mono ?_
          rintro e w1 ⟨rfl, hb1, hB1⟩
          have B1 := hb1
          have HB1 : Hid (Below w0.heap.size w0 w1) := hB1
          clear hB1 CL C5
          go_wp2_with fail
          refine (CL2 w1 w0.heap.size hb1).mono ?_
          rintro e w2 ⟨rfl, hb2, hB2⟩
          have hb1 := hb1.below hB2
          have HB2 : Hid (Below w0.heap.size w0 w2) := HB1.out.trans (hB2.mono HB1.out.size)
          have hl0 : w0.heap.size < w2.heap.size := by have := block_lt_of_cell (hb1.cell 0 (by omega)); simpa using this
          have CZ := zcomma_any w0.heap.size 0 j i s xs hx p1 (by omega) (by have := HD.out.some; rwa [hx] at this) w2 hl0 (fun k hk => hb1.cell k hk)
          clear CL2 hB2 B1
          go_wp2_with fail
          refine CZ.mono ?_
          rintro e w3 ⟨⟨r, rfl, hr⟩, hB3⟩
          have HR : Hid (IsSep xs i r) := hr
          have hrl := hr.lt HD.out
          rw [hx] at hrl
          obtain ⟨r1, r2⟩ := hrl
          have r1' : (i : Int) ≤ (r : Int) := by omega
          have r2' : (r : Int) < (j : Int) := by omega
          have hb1 := hb1.below hB3
          have hb2 := hb2.below hB3
          have HB3 : Hid (Below w0.heap.size w0 w3) := HB2.out.trans (hB3.mono HB2.out.size)
          have hl3 : w0.heap.size < w3.heap.size := Nat.lt_of_lt_of_le hl0 hB3.size
          have S1 := skip_core w1.heap.size i (r - i) (j - i) (seg xs i r) (seg_length (by omega)) (by omega) w3 (seg_cells hb2 (by omega))
          have S2 := skip_core w1.heap.size i (r + 1 - i) (j - i) (seg xs i (r + 1)) (seg_length (by omega)) (by omega) w3 (seg_cells hb2 (by omega))
          have S3 := same_any (some ⟨w0.heap.size, 0, none⟩) (some ⟨w1.heap.size, 0, none⟩) j j j j xs xs hx hx w3 (by unfold maxLen; omega) (by unfold maxLen; omega) hb1 hb2
          rw [hr.skips (by omega)] at S1
          rw [hr.stops (by omega)] at S2
          rw [decide_eq_true rfl] at S3
          have HC1 : Hid (BytesAt w3 (some ⟨w0.heap.size, 0, none⟩) xs ∧ BytesAt w3 (some ⟨w1.heap.size, 0, none⟩) xs) := ⟨hb1, hb2⟩
          clear hr hB3 hb1 hb2 CZ HC hl0
          go_wp2_with fail
          refine S1.mono ?_
          rintro e w4 ⟨rfl, rfl⟩
          go_wp2_with fail
          refine S2.mono ?_
          rintro e w5 ⟨rfl, rfl⟩
          go_wp2_with fail
          refine S3.mono ?_
          rintro e w6 ⟨rfl, q, rfl⟩
          clear S1 S2 S3
          by_cases hk1 : (i : Int) ≤ k
          rotate_left
          · go_wp2_with fail
            go_ret
            exact ⟨rfl, below_drewN HB3.out _⟩
          by_cases hk2 : k < (j : Int)
          rotate_left
          · go_wp2_with fail
            go_ret
            exact ⟨rfl, below_drewN HB3.out _⟩
          obtain ⟨kk, rfl⟩ := Int.eq_ofNat_of_zero_le (show (0 : Int) ≤ k by omega)
          have hk1' : i ≤ kk := by omega
          have hk2' : kk < j := by omega
          have C10 := allsp_core w1.heap.size i (kk - i) (j - i) (seg xs i kk) (seg_length (by omega)) (by omega) (w5.drewN q) (seg_cells (HC1.out.2.alike q) (by omega))
          cases hall : (seg xs i kk).all sp with
          | false =>
            rw [hall] at C10
            go_wp2_with fail
            refine C10.mono ?_
            rintro e w6 ⟨rfl, rfl⟩
            go_wp2_with fail
            go_ret
            exact ⟨rfl, below_drewN HB3.out _⟩
          | true =>
            rw [hall] at C10
            obtain ⟨hs1, hs2⟩ := HR.out.later hk1' (seg_allsp (by omega) hall)
            rw [hx] at hs2
            have CZ := zcomma_any w0.heap.size 0 j kk s xs hx p1 (by omega) hs2 (w5.drewN q) hl3 (fun k hk => (HC1.out.1.alike q).cell k hk)
            have HS1 : Hid (IsSep xs kk r) := hs1
            clear hs1 hs2
            go_wp2_with fail
            refine C10.mono ?_
            rintro e w6 ⟨rfl, rfl⟩
            go_wp2_with fail
            refine CZ.mono ?_
            rintro e w7 ⟨⟨rr, rfl, hrr⟩, hB7⟩
            obtain rfl := HS1.out.uniq hrr
            clear hrr
            have hrb : ((r : Int) != (r : Int)) = false := by simp
            go_wp2_with fail
            go_ret
            exact ⟨rfl, (below_drewN HB3.out q).trans (hB7.mono (below_drewN HB3.out q).size)⟩

set_option maxRecDepth 100000 in
theorem law_out (a : Option Addr) (n ca : Nat) (hmax : n ≤ 9223372036854775807) (i k : Int) (hi : i < 0 ∨ (n : Int) ≤ i) (s : ByteArray) (w : World) :
    Calls Try.prog 3 #[.slice a n ca, .int .i64 i, .int .i64 k, .string s] w fun e w' => e = .returned (.bool true) ∧ Below w.heap.size w w' := by
  have CB := bytes4 a n ca (.int .i64 i) (.int .i64 k) s w
  go_enter Try.func3, Try.ntmps3
  go_wp2_with fail
  refine CB.mono ?_
  rintro e w0 ⟨⟨bb, rfl⟩, rfl⟩
  clear CB
  cases bb with
  | false =>
    go_wp2_with fail
    go_ret
    exact ⟨rfl, Below.refl _ _⟩
  | true =>
    by_cases p1 : n ≤ 1048576
    rotate_left
    · go_wp2_with fail
      go_ret
      exact ⟨rfl, Below.refl _ _⟩
    by_cases p2 : s.size ≤ 1048576
    rotate_left
    · go_wp2_with fail
      go_ret
      exact ⟨rfl, Below.refl _ _⟩
    by_cases p3 : n + s.size ≤ 1048576
    rotate_left
    · go_wp2_with fail
      go_ret
      exact ⟨rfl, Below.refl _ _⟩
    by_cases h0 : i < 0
    · clear hi
      go_wp2_with fail
      go_ret
      exact ⟨rfl, Below.refl _ _⟩
    · have h1 : (n : Int) ≤ i := by omega
      clear hi
      go_wp2_with fail
      go_ret
      exact ⟨rfl, Below.refl _ _⟩

end Go.Proofs.Qxb6623341a
