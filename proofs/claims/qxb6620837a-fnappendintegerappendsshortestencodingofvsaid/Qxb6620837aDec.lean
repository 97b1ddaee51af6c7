/-
  THE WALK: zzDecodeInteger (14), at what appendInteger writes.
-/
import Derived.Test.Qxb6620837aApp
namespace Go.Proofs.Qxb6620837a
open Go.RowKit

theorem ret3 {a a' : Int} {b b' : Int} {c c' : Bool} (h1 : a = a') (h2 : b = b') (h3 : c = c') : Ending.returned (.tuple #[.int .u64 a, .int .u8 b, .bool c]) = .returned (.tuple #[.int .u64 a', .int .u8 b', .bool c']) := by rw [h1, h2, h3]

set_option maxRecDepth 100000 in
set_option maxHeartbeats 400000 in
theorem dec_short (b o cap p ones F V : Nat) (hp1 : 1 ≤ p) (hp : p ≤ 8) (hones : ones = 2 ^ p - 1) (h255 : ones ≤ 255) (hF : F < 256) (hd : F % 2 ^ p = 0) (hV : V < ones) (w : World) (hc : w.cell? ⟨b, o, none⟩ = some (.int .u8 ((F + V : Nat) : Int))) :
    Calls Try.prog 14 #[.slice (some ⟨b, o, none⟩) 1 cap, .int .u64 (p : Int)] w fun e w' => e = .returned (.tuple #[.int .u64 (V : Int), .int .u8 (F : Int), .bool true]) ∧ w' = w := by
  obtain ⟨hFV, hmod, e3⟩ := Enc.first_add F p V hF hd hp (by omega)
  have e1 := Enc.and_mask (F + V) p hFV hp
  have e2 := Enc.andNot_mask (F + V) p hFV hp
  rw [hmod, ← hones] at e1 e2
  rw [e3] at e2
  have C := mask_any p hp1 hp w
  rw [← hones] at C
  have hne : ((V : Int) != (ones : Int)) = true := by rw [bne_iff_ne]; omega
  generalize hB : F + V = B at *
  clear hB hmod e3 hd hones
  go_enter Try.func14, Try.ntmps14
  go_wp2_with (go_at_call 10; refine C.mono ?_; rintro e w' ⟨rfl, rfl⟩)
  go_ret3
  exact ⟨rfl, rfl⟩

set_option maxRecDepth 100000 in
set_option maxHeartbeats 400000 in
theorem dec_long (b o cap p ones F u D : Nat) (hp1 : 1 ≤ p) (hp : p ≤ 8) (hones : ones = 2 ^ p - 1) (h1 : 1 ≤ ones) (h255 : ones ≤ 255) (hF : F < 256) (hd : F % 2 ^ p = 0) (hu : u + ones < 18446744073709551616)
    (hD : (Enc.digs 9 u).length = D) (w : World) (hc : w.cell? ⟨b, o, none⟩ = some (.int .u8 ((F + ones : Nat) : Int)))
    (hcs : ∀ k, k < D → w.cell? ⟨b, o + (k + 1), none⟩ = some (.int .u8 ((Enc.digs 9 u).getD k 0))) :
    Calls Try.prog 14 #[.slice (some ⟨b, o, none⟩) (D + 1) cap, .int .u64 (p : Int)] w fun e w' => e = .returned (.tuple #[.int .u64 ((u + ones : Nat) : Int), .int .u8 (F : Int), .bool true]) ∧ w' = w := by
  have hD1 := Enc.digs_length_pos 9 u
  have hD2 := Enc.digs_length_le 9 u
  have hlast := Enc.digs_last 9 u (by omega)
  have hget := fun k => Enc.digs_get 9 u k (by omega)
  rw [hD] at hD1 hD2 hlast hget
  obtain ⟨hFV, hmod, e3⟩ := Enc.first_add F p ones hF hd hp (by omega)
  have e1 := Enc.and_mask (F + ones) p hFV hp
  have e2 := Enc.andNot_mask (F + ones) p hFV hp
  rw [hmod, ← hones] at e1 e2
  rw [e3] at e2
  have C := mask_any p hp1 hp w
  rw [← hones] at C
  have hne : ((ones : Int) != (ones : Int)) = false := by simp
  generalize hB : F + ones = B at *
  clear hB hmod e3 hd hones
  have HG : Hid (∀ k, k < D → (Enc.digs 9 u).getD k 0 = if k + 1 < D then ((u / 128 ^ k % 128 + 128 : Nat) : Int) else ((u / 128 ^ k : Nat) : Int)) := hget
  have HC : Hid (∀ k, k < D → w.cell? ⟨b, o + (k + 1), none⟩ = some (.int .u8 ((Enc.digs 9 u).getD k 0))) := hcs
  have HL : Hid (u / 128 ^ (D - 1) < 128 ∧ (2 ≤ D → 0 < u / 128 ^ (D - 1))) := hlast
  clear hget hcs hlast hD
  go_enter Try.func14, Try.ntmps14
  go_wp2_with (go_at_call 10; refine C.mono ?_; rintro e w' ⟨rfl, rfl⟩)
  go_loop [10, 11, 12] (fun acc s i => ∃ k : Nat, k ≤ D ∧ i = .int .i64 (k + 1) ∧ s = .int .u64 (7 * k) ∧ acc = .int .u64 ((u % 128 ^ k : Nat) : Int)) (fun _ _ i => D + 1 - (intOf i).toNat)
  case atStart => exact ⟨0, Nat.zero_le _, rfl, rfl, by simp [Nat.mod_one]⟩
  case round =>
    obtain ⟨k, hk, rfl, rfl, rfl⟩ := hrel
    by_cases hlt : k < D
    · have g := HC.out k hlt
      rw [HG.out k hlt] at g
      by_cases hm : k + 1 < D
      · rw [if_pos hm] at g
        have hc7 : u / 128 ^ k % 128 < 128 := Nat.mod_lt _ (by omega)
        generalize hcc : u / 128 ^ k % 128 = c at *
        have HCC : Hid (u / 128 ^ k % 128 = c) := hcc
        generalize hA : u % 128 ^ k = A at *
        have HA : Hid (u % 128 ^ k = A) := hA
        clear hcc hA C e1 e2 hc
        have a1 := Enc.and_128 (c + 128) (by omega)
        rw [if_pos (by omega)] at a1
        have a2 := Enc.and_127 (c + 128) (by omega)
        rw [show (c + 128) % 128 = c from by omega] at a2
        generalize c + 128 = B2 at *
        go_wp2
        go_round
        case rel => exact ⟨k + 1, by omega, by go_num, by go_num, by rw [← HA.out, ← HCC.out, Enc.acc_step u k (by omega)]⟩
        case measure => simp [intOf]; omega
      · rw [if_neg hm] at g
        have hD' : D = k + 1 := by omega
        have hl := HL.out
        rw [hD', Nat.add_sub_cancel] at hl
        have hc9 : k = 9 → u / 128 ^ k % 128 ≤ 1 := by rintro rfl; exact Enc.digit9 u (by omega)
        have hmm : u / 128 ^ k % 128 = u / 128 ^ k := Nat.mod_eq_of_lt hl.1
        rw [hmm] at hc9
        have HM : Hid (u / 128 ^ k % 128 = u / 128 ^ k) := hmm
        clear hmm
        generalize hcc : u / 128 ^ k = c at *
        have HCC : Hid (u / 128 ^ k = c) := hcc
        generalize hA : u % 128 ^ k = A at *
        have HA : Hid (u % 128 ^ k = A) := hA
        clear hcc hA C e1 e2 hc
        have hlc := hl.1
        clear hl
        have a1 := Enc.and_128 c (by omega)
        rw [if_neg (by omega)] at a1
        have a2 := Enc.and_127 c (by omega)
        rw [show c % 128 = c from by omega] at a2
        have hDk : D ≤ k + 1 := by omega
        clear hD'
        have hbk : ((k : Int) + 1 == (D : Int)) = true := by rw [beq_iff_eq]; omega
        by_cases h9 : k ≤ 8
        · clear hc9
          go_wp2
          go_round
          case rel => exact ⟨k + 1, by omega, by go_num, by go_num, by
            have e := Enc.acc_step u k (by omega)
            rw [HA.out, HCC.out, HM.out] at e
            rw [e]⟩
          case measure => simp [intOf]; omega
        · have h9' : 9 ≤ k := by omega
          have hc1 : (c : Int) ≤ 1 := by have := hc9 (by omega); omega
          clear hc9 h9
          go_wp2
          go_round
          case rel => exact ⟨k + 1, by omega, by go_num, by go_num, by
            have e := Enc.acc_step u k (by omega)
            rw [HA.out, HCC.out, HM.out, Enc.wrap_last c k (by omega) (by omega)] at e
            rw [e]⟩
          case measure => simp [intOf]; omega
    · have hkD : D ≤ k := by omega
      have hl := HL.out
      have eA : u % 128 ^ k = u := by rw [show k = D from by omega]; exact Enc.lt_pow u D hD1 hl.1
      rw [eA]
      clear eA
      by_cases h2 : 2 ≤ D
      · have g := HC.out (D - 1) (by omega)
        rw [HG.out (D - 1) (by omega), if_neg (by omega), show o + (D - 1 + 1) = o + D from by omega] at g
        have hp0 := hl.2 h2
        generalize u / 128 ^ (D - 1) = L at *
        clear hl C e1 e2 hc
        have hL : ((L : Int) == 0) = false := by rw [beq_eq_false_iff_ne]; omega
        go_wp2
        go_ret3
        exact ⟨rfl, rfl⟩
      · clear hl
        go_wp2
        go_ret3
        exact ⟨rfl, rfl⟩


open Enc

theorem dec_any (b cap p ones F V : Nat) (hp1 : 1 ≤ p) (hp : p ≤ 8) (hones : ones = 2 ^ p - 1) (h1 : 1 ≤ ones) (h255 : ones ≤ 255) (hF : F < 256) (hd : F % 2 ^ p = 0) (hV : V < 18446744073709551616) (L : Nat) (hL : L = (enc F ones V).length) (w : World)
    (hc : ∀ i, i < L → w.cell? ⟨b, i, none⟩ = some (.int .u8 ((enc F ones V).getD i 0))) :
    Calls Try.prog 14 #[.slice (some ⟨b, 0, none⟩) L cap, .int .u64 (p : Int)] w fun e w' => e = .returned (.tuple #[.int .u64 (V : Int), .int .u8 (F : Int), .bool true]) ∧ w' = w := by
  subst hL
  by_cases hlt : V < ones
  · have c0 := hc 0 (by rw [enc, if_pos hlt]; simp)
    rw [enc, if_pos hlt] at c0 ⊢
    exact dec_short b 0 cap p ones F V hp1 hp hones h255 hF hd hlt w (by simpa using c0)
  · have e : enc F ones V = ((F + ones : Nat) : Int) :: digs 9 (V - ones) := by rw [enc, if_neg hlt]
    rw [e] at hc ⊢
    have := dec_long b 0 cap p ones F (V - ones) _ hp1 hp hones h1 h255 hF hd (by omega) rfl w (by simpa using hc 0 (by simp)) (fun k hk => by simpa using hc (k + 1) (by simp; omega))
    rw [show V - ones + ones = V from by omega] at this
    exact this

/-- appendInteger onto nil. -/
theorem nilapp (F p ones V : Nat) (h1 : 1 ≤ ones) (h8 : ones ≤ 255) (hP : (2 : Int) ^ p = (ones : Int) + 1) (hp : p ≤ 8) (hV : V < 18446744073709551616)
    (hor : ∀ x : Nat, x ≤ ones → bits BinOp.or IntKind.u8 (F : Int) (x : Int) = ((F + x : Nat) : Int)) (w : World) :
    Calls Try.prog 12 #[.slice none 0 0, .int .u8 F, .int .u64 (p : Int), .int .u64 (V : Int)] w fun e w' => ∃ g cap, e = .returned (.slice (some ⟨g, 0, none⟩) (enc F ones V).length cap) ∧ (enc F ones V).length ≤ cap ∧ g < w'.heap.size ∧
      (∀ i, i < (enc F ones V).length → w'.cell? ⟨g, i, none⟩ = some (.int .u8 ((enc F ones V).getD i 0))) ∧ Below w.heap.size w w' := by
  refine (zapp_any w.heap.size 0 (.slice none 0 0) [] F p ones V h1 h8 hP hp hV hor w (by omega) (World.ownsRow_nil _ _ _ _) (Nat.le_refl _)).mono ?_
  rintro e w' ⟨v', rfl, ho, hg⟩
  have hb : Below w.heap.size w w' := (Below.refl _ _).grown hg.1 (Nat.le_refl _) (by intro k hk; simp [Value.ownBlock] at hk)
  have hl := enc_length F ones V
  simp only [Nat.zero_add, List.nil_append] at ho
  have hcs := fun g => ho.cells (g := g)
  have hlt := ho.lt
  rcases ho.2 with ⟨_, h0⟩ | ⟨g, cap, cur, rfl, hbg, hh, hnc, _, _, _⟩
  · omega
  · refine ⟨g, cap, rfl, hnc, (hlt g rfl).2, fun i hi => ?_, hb⟩
    have := hcs g rfl i (.int .u8 ((enc F ones V).getD i 0)) (by simp [hi])
    rw [Addr.add_lit, Nat.zero_add] at this
    exact this

end Go.Proofs.Qxb6620837a
