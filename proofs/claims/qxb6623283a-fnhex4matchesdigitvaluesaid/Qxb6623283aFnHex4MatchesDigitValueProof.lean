/-
  A PROOF OF 'Rows.FnHex4MatchesDigitValueSaid' ('example.com/pathorder/pathorder/zzlaws_root_b1.FnHex4MatchesDigitValue'), WRITTEN BY PROGRAM (proof-skeleton.mjs) off the guide's own print for that function.
  The frame is the given shell's; the walk is the seat's own.
-/
import Derived.Test.Qxb6623283aRows
import Derived.WalkKit
import Derived.ProofKit
import Derived.OpenShut
import Derived.ShutString
import Derived.Test.Qxb6623283aHex4
namespace Go.Proofs.Qxb6623283a.fnHex4MatchesDigitValue
open Go.ChangeShapes Go.WideShapes Go.ChangeAt Go.RowKit
open Go.ChangeMaps (open_string shut_string)
set_option linter.unusedVariables false      -- a walk need not use every 'w<i>' (that an integer argument fits its kind)

theorem own : ownKnob Try.prog.godebug = none := by kernel_rfl

/-! ### STEP 1: THE WALK: the Go text returns true. 'Grown w w'': the world has at most new blocks (Derived/RowKit3.lean). Part the cases AHEAD of 'go_enter' where a test parts the walk; take each callee by a contract of your own. -/
set_option maxHeartbeats 1000000 in
theorem main_long (s : ByteArray) (i : Nat) (hs : s.size ≤ 1048576) (h4 : i + 4 ≤ s.size) (w : World) :
    Calls Try.prog 3 #[.string s, .int .i64 (i : Int)] w fun e w' => e = .returned (.bool true) ∧ Grown w w' := by
  have C4 := bytes4 s (.int .i64 (i : Int)) (by unfold maxLen; omega) w
  rw [decide_eq_true hs] at C4
  have CZ := zhex4_long s i hs h4 w
  have D := fun c => digit_any c w
  have e0 : byAt s i = ((s[i].toNat : Nat) : Int) := by unfold byAt; rw [dif_pos (by omega)]
  have e1 : byAt s (i + 1) = ((s[i + 1].toNat : Nat) : Int) := by unfold byAt; rw [dif_pos (by omega)]
  have e2 : byAt s (i + 2) = ((s[i + 2].toNat : Nat) : Int) := by unfold byAt; rw [dif_pos (by omega)]
  have e3 : byAt s (i + 3) = ((s[i + 3].toNat : Nat) : Int) := by unfold byAt; rw [dif_pos (by omega)]
  have D0 := D ((s[i].toNat : Nat) : Int)
  have D1 := D ((s[i + 1].toNat : Nat) : Int)
  have D2 := D ((s[i + 2].toNat : Nat) : Int)
  have D3 := D ((s[i + 3].toNat : Nat) : Int)
  have b0 := hv_le (byAt s i)
  have b1 := hv_le (byAt s (i + 1))
  have b2 := hv_le (byAt s (i + 2))
  have b3 := hv_le (byAt s (i + 3))
  have HV : Hid (vals s i 4 = ((hv (byAt s i) * 16 + hv (byAt s (i + 1))) * 16 + hv (byAt s (i + 2))) * 16 + hv (byAt s (i + 3))) := by show _ = _; simp [vals]
  have HO : Hid (Oks s i 4 ↔ 0 ≤ hv (byAt s i) ∧ 0 ≤ hv (byAt s (i + 1)) ∧ 0 ≤ hv (byAt s (i + 2)) ∧ 0 ≤ hv (byAt s (i + 3))) := by
    constructor
    · intro h
      exact ⟨h 0 (by omega), h 1 (by omega), h 2 (by omega), h 3 (by omega)⟩
    · rintro ⟨a, b, c, d⟩ t ht
      have : t = 0 ∨ t = 1 ∨ t = 2 ∨ t = 3 := by omega
      rcases this with rfl | rfl | rfl | rfl
      · exact a
      · exact b
      · exact c
      · exact d
  rw [← e0] at D0
  rw [← e1] at D1
  rw [← e2] at D2
  rw [← e3] at D3
  generalize hv (byAt s i) = d0 at *
  generalize hv (byAt s (i + 1)) = d1 at *
  generalize hv (byAt s (i + 2)) = d2 at *
  generalize hv (byAt s (i + 3)) = d3 at *
  rw [e0] at D0
  rw [e1] at D1
  rw [e2] at D2
  rw [e3] at D3
  obtain ⟨b00, b01⟩ := b0
  obtain ⟨b10, b11⟩ := b1
  obtain ⟨b20, b21⟩ := b2
  obtain ⟨b30, b31⟩ := b3
  clear e0 e1 e2 e3 D
  have hi1 : (i : Int) < (s.size : Int) := by omega
  go_enter Try.func3, Try.ntmps3
  go_wp2_with fail
  refine C4.mono ?_
  rintro e w' ⟨rfl, rfl⟩
  go_wp2_with fail
  refine D0.mono ?_
  rintro e w' ⟨rfl, rfl⟩
  go_wp2_with fail
  refine D1.mono ?_
  rintro e w' ⟨rfl, rfl⟩
  go_wp2_with fail
  refine D2.mono ?_
  rintro e w' ⟨rfl, rfl⟩
  go_wp2_with fail
  refine D3.mono ?_
  rintro e w' ⟨rfl, rfl⟩
  clear D0 D1 D2 D3 C4
  by_cases ho : 0 ≤ d0 ∧ 0 ≤ d1 ∧ 0 ≤ d2 ∧ 0 ≤ d3
  · obtain ⟨g0, g1, g2, g3⟩ := ho
    have HT : Hid (Oks s i 4) := HO.out.2 ⟨g0, g1, g2, g3⟩
    go_wp2_with fail
    refine CZ.mono ?_
    rintro e w' ⟨⟨rfl, _⟩ | ⟨_, hn⟩, rfl⟩
    · have hval : vals s i 4 = d0 * 4096 + d1 * 256 + d2 * 16 + d3 := by have := HV.out; omega
      have hbv : (vals s i 4 == d0 * 4096 + d1 * 256 + d2 * 16 + d3) = true := by rw [beq_iff_eq]; exact hval
      have hb1 : 0 ≤ vals s i 4 := by omega
      have hb2 : vals s i 4 ≤ 65535 := by omega
      clear hval HO HV CZ
      generalize vals s i 4 = V at *
      go_wp2_with fail
      go_ret
      exact ⟨rfl, Grown.refl _⟩
    · exact absurd HT.out hn
  · have HN : Hid (¬ Oks s i 4) := fun h => ho (HO.out.1 h)
    have hcase : (¬ 0 ≤ d0) ∨ (0 ≤ d0 ∧ ¬ 0 ≤ d1) ∨ (0 ≤ d0 ∧ 0 ≤ d1 ∧ ¬ 0 ≤ d2) ∨ (0 ≤ d0 ∧ 0 ≤ d1 ∧ 0 ≤ d2 ∧ ¬ 0 ≤ d3) := by omega
    clear ho HO HV
    rcases hcase with g0 | ⟨g0, g1⟩ | ⟨g0, g1, g2⟩ | ⟨g0, g1, g2, g3⟩
    all_goals
      go_wp2_with fail
      refine CZ.mono ?_
      rintro e w' ⟨⟨_, hy⟩ | ⟨rfl, _⟩, rfl⟩
      · exact absurd hy HN.out
      · clear CZ
        go_wp2_with fail
        go_ret
        exact ⟨rfl, Grown.refl _⟩

theorem walk (a0 : ByteArray) (a1 : Int) (w0 : a0.size ≤ maxLen) (w1 : (Lit.int .i64 a1).wf = true) (w : World) :
    Calls Try.prog 3 #[.string a0, .int .i64 a1] w fun e w' => e = .returned (.bool true) ∧ Grown w w' := by
  have b1 := bounds_i64 w1
  have C4 := bytes4 a0 (.int .i64 a1) w0 w
  have m := w0
  unfold maxLen at m
  by_cases hs : a0.size ≤ 1048576
  · by_cases hi : 0 ≤ a1 ∧ a1 ≤ a0.size
    · obtain ⟨i, rfl⟩ := Int.eq_ofNat_of_zero_le hi.1
      by_cases h4 : i + 4 ≤ a0.size
      · exact main_long a0 i hs h4 w
      · rw [decide_eq_true hs] at C4
        have CZ := zhex4_short a0 i hs (by omega) (by omega) w
        obtain ⟨hi1, hi2⟩ := hi
        go_enter Try.func3, Try.ntmps3
        go_wp2_with fail
        refine C4.mono ?_
        rintro e w' ⟨rfl, rfl⟩
        go_wp2_with fail
        refine CZ.mono ?_
        rintro e w' ⟨rfl, rfl⟩
        go_wp2_with fail
        go_ret
        exact ⟨rfl, Grown.refl _⟩
    · rw [decide_eq_true hs] at C4
      have hcase : a1 < 0 ∨ (¬ a1 < 0 ∧ (a0.size : Int) < a1) := by omega
      clear hi
      rcases hcase with g | ⟨g, g'⟩
      all_goals
        go_enter Try.func3, Try.ntmps3
        go_wp2_with fail
        refine C4.mono ?_
        rintro e w' ⟨rfl, rfl⟩
        go_wp2_with fail
        go_ret
        exact ⟨rfl, Grown.refl _⟩
  · rw [decide_eq_false hs] at C4
    go_enter Try.func3, Try.ntmps3
    go_wp2_with fail
    refine C4.mono ?_
    rintro e w' ⟨rfl, rfl⟩
    go_wp2_with fail
    go_ret
    exact ⟨rfl, Grown.refl _⟩

/-! ### THE ROW's STEP: WRITTEN OUT: LEAVE IT -/
set_option maxRecDepth 100000 in
theorem lifted (os : Os) (started : os.Started) (H : Type) (enc : TypeId × Value → H) :
    ReturnsInHanded {} Try.checked os 3 .any (Rows.fnHex4MatchesDigitValueSpec.pre6 enc Try.prog Try.f3 Rows.fnHex4MatchesDigitValueRow.domain false) (Rows.fnHex4MatchesDigitValueSpec.post enc Try.prog Try.f3 false true false false) := by
  refine returnsInHanded_of_change (C := Try.checked) own started (by kernel_rfl) Try.func3
    (ChangeSpec.witness6 (enc := enc) (C := Try.checked) false ⟨#[], #[.string ByteArray.empty, .int .i64 0], []⟩ 8 (by kernel_rfl) (by kernel_rfl) (by kernel_rfl) (by kernel_rfl)) ?_
  intro W base args ds gs before hval0 hW hcnd _
  have hval : ∀ (j : Nat) t v, Try.f3.params[j]? = some t → args[j]? = some v → Value.okWide Try.prog W .any base t v := hval0
  have hW' := hW
  obtain ⟨p, q, hA0, hV, rfl, hfz, hnd⟩ := hW
  have hA : DataW.TrodAll enc Try.prog W 0 (fun _ => true) true Try.f3.params.toList args.toList ds p := hA0
  rw [Try.params3] at hA hval
  obtain ⟨v0, vs0, d0, ds0, p0, q0, hargs, rfl, rfl, h0, r0⟩ := trodAll_cons hA
  obtain ⟨v1, vs1, d1, ds1, p1, q1, rfl, rfl, rfl, h1, r1⟩ := trodAll_cons r0
  obtain ⟨rfl, rfl, rfl⟩ := trodAll_nil r1
  obtain rfl : args = #[v0, v1] := by cases args; simp_all
  obtain ⟨rfl, rfl⟩ := trodVars_none hV
  obtain ⟨a0, rfl, rfl, rfl, w0⟩ := open_string Try.underlying9 (hval 0 9 v0 rfl rfl) h0
  obtain ⟨a1, rfl, rfl, rfl, w1⟩ := open_int Try.underlying3 (hval 1 3 v1 rfl rfl) h1
  clear hA0 hval0
  simp only [List.append_nil] at hW'
  refine (walk a0 a1 w0 w1 W).mono fun e W' ⟨he, hg⟩ => ?_
  subst he
  exact ⟨_, rfl, post_of_same (pa := []) (pv := []) hW' (fun _ _ _ => (trodAll_cons_mk (shut_bool Try.underlying4 _) trodAll_mk0)) (fun sp _ => (trodAll_cons_mk (shut_string Try.underlying9 w0) (trodAll_cons_mk (shut_int Try.underlying3 w1) trodAll_mk0))) (fun _ _ => rfl) rfl
    (hg.frame _) hg.2.1 (ok_one (by kernel_rfl) rfl (okWide_bool_mk Try.underlying4 _))⟩

theorem over : Rows.fnHex4MatchesDigitValueRow.holds Try.pinned (OpenSpec.ofChange Rows.fnHex4MatchesDigitValueSpec) :=
  OpenClaim.holds_of_wide 3 Try.f3 rfl rfl rfl rfl rfl rfl rfl ⟨rfl, rfl, rfl, rfl, rfl⟩ rfl rfl rfl rfl rfl (by kernel_rfl) Try.func3 (by kernel_rfl)
    (of_decide_eq_true (by kernel_rfl)) (by unfold Func.isWrapper; first | (rw [if_pos (by decide +kernel)]; kernel_rfl) | (rw [if_neg (by decide +kernel)]; exact ⟨rfl, rfl⟩))
    (fun os started H enc _ => lifted os started H enc)

/-- ████ THE STATEMENT ████ -/
theorem proved : Rows.FnHex4MatchesDigitValueSaid :=
  over
#print axioms proved
end Go.Proofs.Qxb6623283a.fnHex4MatchesDigitValue
