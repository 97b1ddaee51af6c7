/-
  A PROOF OF 'Rows.FnAppendIntegerEncodingsInjectivePrefixFreeSaid' ('example.com/corelace/corelace/zzlaws_h2_hpack_b1.FnAppendIntegerEncodingsInjectivePrefixFree'), WRITTEN BY PROGRAM (proof-skeleton.mjs) off the guide's own print for that function.
  The frame is the given shell's, with 'Below' in the place of 'Grown'; the walk is the seat's own.
-/
import Derived.Test.Qxb6620837aRows
import Derived.WalkKit
import Derived.ProofKit
import Derived.OpenShut
import Derived.ShutString
import Derived.ChangeOld
import Derived.Below
import Derived.Test.Qxb6620837aDec
namespace Go.Proofs.Qxb6620837a.fnAppendIntegerEncodingsInjectivePrefixFree
open Go.ChangeShapes Go.WideShapes Go.ChangeAt Go.RowKit
open Go.ChangeMaps (open_string shut_string)
set_option linter.unusedVariables false      -- a walk need not use every 'w<i>' (that an integer argument fits its kind)

open Enc in
set_option maxHeartbeats 1000000 in
theorem law_main (F p ones V W : Nat) (hp1 : 1 ≤ p) (hp : p ≤ 8) (hones : ones = 2 ^ p - 1) (h1 : 1 ≤ ones) (h255 : ones ≤ 255) (hP : (2 : Int) ^ p = (ones : Int) + 1) (hF : F < 256) (hd : F % 2 ^ p = 0)
    (hV : V < 18446744073709551616) (hW : W < 18446744073709551616) (w : World) :
    Calls Try.prog 4 #[.int .u8 (F : Int), .int .u64 (p : Int), .int .u64 (V : Int), .int .u64 (W : Int)] w fun e w' => e = .returned (.bool true) ∧ Below w.heap.size w w' := by
  have hor : ∀ x : Nat, x ≤ ones → bits BinOp.or IntKind.u8 (F : Int) (x : Int) = ((F + x : Nat) : Int) := fun x hx => or_first F p x hF hd hp (by omega)
  have am := and_mask F p hF hp
  rw [hd, ← hones] at am
  have C10 := fun w => mask_any p hp1 hp w
  rw [← hones] at C10
  have CA := fun w => nilapp F p ones V h1 h255 hP hp hV hor w
  have CB := fun w => nilapp F p ones W h1 h255 hP hp hW hor w
  have DA := fun g c w h => dec_any g c p ones F V hp1 hp hones h1 h255 hF hd hV (enc F ones V).length rfl w h
  have DB := fun g c w h => dec_any g c p ones F W hp1 hp hones h1 h255 hF hd hW (enc F ones W).length rfl w h
  have L1 := enc_length F ones V
  have L2 := enc_length F ones W
  have inj := enc_inj F ones V W hV hW
  have T1 := enc_take F ones V W hV hW
  have T2 := enc_take F ones W V hW hV
  have M1 := enc_mono F ones V W
  have M2 := enc_mono F ones W V
  generalize enc F ones V = xs at *
  generalize enc F ones W = ys at *
  have H : Hid ((xs = ys ↔ V = W) ∧ (ys.length < xs.length → xs.take ys.length ≠ ys) ∧ (xs.length < ys.length → ys.take xs.length ≠ xs) ∧ (V ≤ W → xs.length ≤ ys.length) ∧ (W ≤ V → ys.length ≤ xs.length)) := ⟨inj, T1, T2, M1, M2⟩
  have HP : Hid ((2 : Int) ^ p = (ones : Int) + 1) := hP
  clear inj T1 T2 M1 M2 hor hones hP hd
  have am' : bits BinOp.and IntKind.u8 (F : Int) (ones : Int) = 0 := am
  clear am
  go_enter Try.func4, Try.ntmps4
  go_wp2_with fail
  refine (C10 _).mono ?_
  rintro e w0 ⟨rfl, rfl⟩
  go_wp2_with fail
  refine (CA _).mono ?_
  rintro e w1 ⟨ga, ca, rfl, hca, hga, hcA, hb1⟩
  go_wp2_with fail
  refine (CB _).mono ?_
  rintro e w2 ⟨gb, cb, rfl, hcb, hgb, hcB, hb2⟩
  have hcA2 : ∀ i, i < xs.length → w2.cell? ⟨ga, i, none⟩ = some (.int .u8 (xs.getD i 0)) := fun i hi => (hb2.cell (p := ⟨ga, i, none⟩) hga).trans (hcA i hi)
  have hB : Below w0.heap.size w0 w2 := hb1.trans (hb2.mono (by have := hb1.size; omega))
  clear hcA hb1 hb2
  have bA : ∀ q, BytesAt (w2.drewN q) (some ⟨ga, 0, none⟩) xs := fun q i hi => ⟨ga, 0, rfl, by simpa using hcA2 i hi⟩
  have bB : ∀ q, BytesAt (w2.drewN q) (some ⟨gb, 0, none⟩) ys := fun q i hi => ⟨gb, 0, rfl, by simpa using hcB i hi⟩
  have HA : Hid (∀ i, i < xs.length → w2.cell? ⟨ga, i, none⟩ = some (.int .u8 (xs.getD i 0))) := hcA2
  have HB : Hid (∀ i, i < ys.length → w2.cell? ⟨gb, i, none⟩ = some (.int .u8 (ys.getD i 0))) := hcB
  clear hcA2 hcB
  have hsm := fun w a b => same_any (some ⟨ga, 0, none⟩) (some ⟨gb, 0, none⟩) xs.length ys.length ca cb xs ys rfl rfl w (by unfold maxLen; omega) (by unfold maxLen; omega) a b
  have hp1' := fun w a b => hasp_any (some ⟨ga, 0, none⟩) (some ⟨gb, 0, none⟩) xs.length ys.length ca cb xs ys rfl rfl w hca (by unfold maxLen; omega) (by unfold maxLen; omega) a b
  have hp2' := fun w a b => hasp_any (some ⟨gb, 0, none⟩) (some ⟨ga, 0, none⟩) ys.length xs.length cb ca ys xs rfl rfl w hcb (by unfold maxLen; omega) (by unfold maxLen; omega) a b
  obtain ⟨inj, T1, T2, M1, M2⟩ := H.out
  have d1 : decide (ys.length < xs.length ∧ xs.take ys.length = ys) = false := decide_eq_false fun h => T1 h.1 h.2
  have d2 : decide (xs.length < ys.length ∧ ys.take xs.length = xs) = false := decide_eq_false fun h => T2 h.1 h.2
  have d3 : decide (xs = ys) = ((V : Int) == (W : Int)) := by
    rw [Bool.eq_iff_iff, decide_eq_true_iff, beq_iff_eq, inj]; omega
  rw [d1] at hp1'
  rw [d2] at hp2'
  rw [d3] at hsm
  have HM : Hid ((V ≤ W → xs.length ≤ ys.length) ∧ (W ≤ V → ys.length ≤ xs.length)) := ⟨M1, M2⟩
  clear d1 d2 d3 inj T1 T2 H M1 M2 C10 CA CB
  have L1' := L1.1
  have L1'' := L1.2
  have L2' := L2.1
  have L2'' := L2.2
  clear L1 L2
  go_wp2_with fail
  refine (hsm _ (bA 0) (bB 0)).mono ?_
  rintro e w3 ⟨rfl, q1, rfl⟩
  go_wp2_with fail
  refine (hp1' _ (bA _) (bB _)).mono ?_
  rintro e w3 ⟨rfl, q2, rfl⟩
  rw [World.drewN_drewN]
  go_wp2_with fail
  refine (hp2' _ (bB _) (bA _)).mono ?_
  rintro e w3 ⟨rfl, q3, rfl⟩
  rw [World.drewN_drewN]
  clear hsm hp1' hp2' bA bB
  have hcase : ((V : Int) ≤ W ∧ (W : Int) ≤ V ∧ (xs.length : Int) ≤ ys.length ∧ (ys.length : Int) ≤ xs.length) ∨ ((V : Int) ≤ W ∧ ¬ (W : Int) ≤ V ∧ (xs.length : Int) ≤ ys.length) ∨ (¬ (V : Int) ≤ W ∧ (W : Int) ≤ V ∧ (ys.length : Int) ≤ xs.length) := by
    have := HM.out
    omega
  have cA : ∀ q, ∀ i, i < xs.length → (w2.drewN q).cell? ⟨ga, i, none⟩ = some (.int .u8 (xs.getD i 0)) := fun q i hi => by simpa using HA.out i hi
  have cB : ∀ q, ∀ i, i < ys.length → (w2.drewN q).cell? ⟨gb, i, none⟩ = some (.int .u8 (ys.getD i 0)) := fun q i hi => by simpa using HB.out i hi
  have K1 : Hid (∀ c q, Calls Try.prog 14 #[.slice (some ⟨ga, 0, none⟩) xs.length c, .int .u64 (p : Int)] (w2.drewN q) fun e w' => e = .returned (.tuple #[.int .u64 (V : Int), .int .u8 (F : Int), .bool true]) ∧ w' = w2.drewN q) := fun c q => DA _ _ _ (cA q)
  have K2 : Hid (∀ c q, Calls Try.prog 14 #[.slice (some ⟨gb, 0, none⟩) ys.length c, .int .u64 (p : Int)] (w2.drewN q) fun e w' => e = .returned (.tuple #[.int .u64 (W : Int), .int .u8 (F : Int), .bool true]) ∧ w' = w2.drewN q) := fun c q => DB _ _ _ (cB q)
  clear cA cB DA DB
  rcases hcase with ⟨c1, c2, c3, c4⟩ | ⟨c1, c2, c3⟩ | ⟨c1, c2, c3⟩
  all_goals
    go_wp2_with fail
    refine (K1.out _ _).mono ?_
    rintro e w3 ⟨rfl, rfl⟩
    go_wp2_with fail
    refine (K2.out _ _).mono ?_
    rintro e w3 ⟨rfl, rfl⟩
    go_wp2_with fail
    go_ret
    exact ⟨rfl, below_drewN hB _⟩

theorem own : ownKnob Try.prog.godebug = none := by kernel_rfl

/-! ### STEP 1: THE WALK: the Go text returns true. 'Grown w w'': the world has at most new blocks (Derived/RowKit3.lean). Part the cases AHEAD of 'go_enter' where a test parts the walk; take each callee by a contract of your own. -/
theorem walk (a0 : Int) (a1 : Int) (a2 : Int) (a3 : Int) (w0 : (Lit.int .u8 a0).wf = true) (w1 : (Lit.int .u64 a1).wf = true) (w2 : (Lit.int .u64 a2).wf = true) (w3 : (Lit.int .u64 a3).wf = true) (w : World) :
    Calls Try.prog 4 #[.int .u8 a0, .int .u64 a1, .int .u64 a2, .int .u64 a3] w fun e w' => e = .returned (.bool true) ∧ Below w.heap.size w w' := by
  have b0 := bounds_u8 w0
  have b1 := bounds_u64 w1
  have b2 := bounds_u64 w2
  have b3 := bounds_u64 w3
  clear w0 w1 w2 w3
  by_cases hp : 1 ≤ a1 ∧ a1 ≤ 8
  · obtain ⟨F, rfl⟩ := Int.eq_ofNat_of_zero_le b0.1
    obtain ⟨p, rfl⟩ := Int.eq_ofNat_of_zero_le b1.1
    obtain ⟨V, rfl⟩ := Int.eq_ofNat_of_zero_le b2.1
    obtain ⟨W, rfl⟩ := Int.eq_ofNat_of_zero_le b3.1
    have hp1 : 1 ≤ p := by omega
    have hp8 : p ≤ 8 := by omega
    have h2 : 2 ^ p ≤ 2 ^ 8 := Nat.pow_le_pow_right (by omega) hp8
    have h2' : 2 ^ 1 ≤ 2 ^ p := Nat.pow_le_pow_right (by omega) hp1
    by_cases hd : F % 2 ^ p = 0
    · refine law_main F p (2 ^ p - 1) V W hp1 hp8 rfl (by omega) (by omega) ?_ (by omega) hd (by omega) (by omega) w
      have : ((2 ^ p : Nat) : Int) = ((2 ^ p - 1 : Nat) : Int) + 1 := by omega
      rw [← this]
      simp
    · have am := Enc.and_mask F p (by omega) hp8
      have C10 := mask_any p hp1 hp8 w
      generalize 2 ^ p - 1 = ones at *
      have hne : (((F % 2 ^ p : Nat) : Int) != 0) = true := by rw [bne_iff_ne]; omega
      generalize F % 2 ^ p = m at *
      clear hp h2 h2' hd
      go_enter Try.func4, Try.ntmps4
      go_wp2_with (go_at_call 10; refine C10.mono ?_; rintro e w' ⟨rfl, rfl⟩)
      go_ret
      exact ⟨rfl, Below.refl _ _⟩
  · by_cases h1 : a1 < 1
    · clear hp
      go_enter Try.func4, Try.ntmps4
      go_wp2_with fail
      go_ret
      exact ⟨rfl, Below.refl _ _⟩
    · have h9 : 8 < a1 := by omega
      clear hp
      go_enter Try.func4, Try.ntmps4
      go_wp2_with fail
      go_ret
      exact ⟨rfl, Below.refl _ _⟩

/-! ### THE ROW's STEP: WRITTEN OUT: LEAVE IT -/
set_option maxRecDepth 100000 in
theorem lifted (os : Os) (started : os.Started) (H : Type) (enc : TypeId × Value → H) :
    ReturnsInHanded {} Try.checked os 4 .any (Rows.fnAppendIntegerEncodingsInjectivePrefixFreeSpec.pre6 enc Try.prog Try.f4 Rows.fnAppendIntegerEncodingsInjectivePrefixFreeRow.domain false) (Rows.fnAppendIntegerEncodingsInjectivePrefixFreeSpec.post enc Try.prog Try.f4 false true false false) := by
  refine returnsInHanded_of_change (C := Try.checked) own started (by kernel_rfl) Try.func4
    (ChangeSpec.witness6 (enc := enc) (C := Try.checked) false ⟨#[], #[.int .u8 0, .int .u64 0, .int .u64 0, .int .u64 0], []⟩ 8 (by kernel_rfl) (by kernel_rfl) (by kernel_rfl) (by kernel_rfl)) ?_
  intro W base args ds gs before hval0 hW hcnd _
  have hval : ∀ (j : Nat) t v, Try.f4.params[j]? = some t → args[j]? = some v → Value.okWide Try.prog W .any base t v := hval0
  have hW' := hW
  obtain ⟨p, q, hA0, hV, rfl, hfz, hnd⟩ := hW
  have hA : DataW.TrodAll enc Try.prog W 0 (fun _ => true) true Try.f4.params.toList args.toList ds p := hA0
  rw [Try.params4] at hA hval
  obtain ⟨v0, vs0, d0, ds0, p0, q0, hargs, rfl, rfl, h0, r0⟩ := trodAll_cons hA
  obtain ⟨v1, vs1, d1, ds1, p1, q1, rfl, rfl, rfl, h1, r1⟩ := trodAll_cons r0
  obtain ⟨v2, vs2, d2, ds2, p2, q2, rfl, rfl, rfl, h2, r2⟩ := trodAll_cons r1
  obtain ⟨v3, vs3, d3, ds3, p3, q3, rfl, rfl, rfl, h3, r3⟩ := trodAll_cons r2
  obtain ⟨rfl, rfl, rfl⟩ := trodAll_nil r3
  obtain rfl : args = #[v0, v1, v2, v3] := by cases args; simp_all
  obtain ⟨rfl, rfl⟩ := trodVars_none hV
  obtain ⟨a0, rfl, rfl, rfl, w0⟩ := open_int Try.underlying5 (hval 0 5 v0 rfl rfl) h0
  obtain ⟨a1, rfl, rfl, rfl, w1⟩ := open_int Try.underlying23 (hval 1 23 v1 rfl rfl) h1
  obtain ⟨a2, rfl, rfl, rfl, w2⟩ := open_int Try.underlying24 (hval 2 24 v2 rfl rfl) h2
  obtain ⟨a3, rfl, rfl, rfl, w3⟩ := open_int Try.underlying24 (hval 3 24 v3 rfl rfl) h3
  clear hA0 hval0
  refine (walk a0 a1 a2 a3 w0 w1 w2 w3 W).mono fun e W' ⟨he, bel⟩ => ?_
  subst he
  exact ⟨_, rfl, _, _, _, [], _, [], hW', trodAll_mk1 (shut_bool Try.underlying4 _), (trodAll_cons_mk (shut_int Try.underlying5 w0) (trodAll_cons_mk (shut_int Try.underlying23 w1) (trodAll_cons_mk (shut_int Try.underlying24 w2) (trodAll_cons_mk (shut_int Try.underlying24 w3) trodAll_mk0)))), rfl, bel.frame _, fun h => by cases h⟩

theorem over : Rows.fnAppendIntegerEncodingsInjectivePrefixFreeRow.holds Try.pinned (OpenSpec.ofChange Rows.fnAppendIntegerEncodingsInjectivePrefixFreeSpec) :=
  OpenClaim.holds_of_wide 4 Try.f4 rfl rfl rfl rfl rfl rfl rfl ⟨rfl, rfl, rfl, rfl, rfl⟩ rfl rfl rfl rfl rfl (by kernel_rfl) Try.func4 (by kernel_rfl)
    (of_decide_eq_true (by kernel_rfl)) (by unfold Func.isWrapper; first | (rw [if_pos (by decide +kernel)]; kernel_rfl) | (rw [if_neg (by decide +kernel)]; exact ⟨rfl, rfl⟩))
    (fun os started H enc _ => lifted os started H enc)

/-- ████ THE STATEMENT ████ -/
theorem proved : Rows.FnAppendIntegerEncodingsInjectivePrefixFreeSaid :=
  over
#print axioms proved
end Go.Proofs.Qxb6620837a.fnAppendIntegerEncodingsInjectivePrefixFree
