/-
  A PROOF OF 'Rows.FnAppendIntegerAppendsShortestEncodingOfVSaid' ('example.com/corelace/corelace/zzlaws_h2_hpack_b1.FnAppendIntegerAppendsShortestEncodingOfV'), WRITTEN BY PROGRAM (proof-skeleton.mjs, third state) off the guide's own print for that function.
  The frame is the given shell's; the walk is the seat's own.
-/
import Derived.Test.Qxb6620837aRows
import Derived.WalkKit
import Derived.ProofKit
import Derived.OpenShut
import Derived.ShutString
import Derived.ChangeOld
import Derived.Below
import Derived.Test.Qxb6620837aDec
import Derived.Test.Qxb6620837aClone
namespace Go.Proofs.Qxb6620837a.fnAppendIntegerAppendsShortestEncodingOfV
open Go.ChangeShapes Go.WideShapes Go.ChangeAt Go.RowKit
open Go.ChangeMaps (open_string shut_string)
set_option linter.unusedVariables false

theorem own : ownKnob Try.prog.godebug = none := by kernel_rfl
theorem laidOut : laidOutB Try.prog = true := by kernel_rfl

/-- WHAT THE WALK IS TOLD OF A SLICE OF INTEGERS THAT CAME IN: it is nil; or it leads to a row of 'cap' cells, the numbers 'zs' (the first 'len' are its elements, the rest its spare room), each fitting its kind. -/
def IsRow (k : IntKind) (w : World) (a : Option Addr) (len cap : Nat) (zs : List Int) : Prop :=
  (a = none ∧ len = 0 ∧ cap = 0 ∧ zs = []) ∨
  ∃ x, a = some x ∧ len ≤ cap ∧ cap ≤ maxLen ∧ zs.length = cap ∧ (∀ i, i < zs.length → w.cell? (x.add i) = some (.int k (zs.getD i 0))) ∧ ∀ n ∈ zs, (Lit.int k n).wf = true

/-! ### STEP 1: THE WALK: the Go text returns true, AND WRITES NOTHING THAT WAS THERE: 'Below w.heap.size w w'' (Derived/Below.lean: '.refl', '.alloc', '.drew', '.setCell' at a new block, '.trans'). Open each 'IsRow' by 'rcases' AHEAD of 'go_enter'; part every test ahead of the walk. -/

theorem bytes_of_row {w : World} {base g n cap : Nat} {zs : List Int} (h : w.ownsRow base 5 1 (.slice (some ⟨g, 0, none⟩) n cap) n (zs.map (Value.int .u8))) (i : Nat) (hi : i < n) : w.cell? ⟨g, i, none⟩ = some (.int .u8 (zs.getD i 0)) := by
  have hl : zs.length = n := by simpa using h.1
  rw [h.cellAt i (by omega)]
  simp [show i < zs.length by omega]

set_option maxRecDepth 100000 in
set_option maxHeartbeats 1000000 in
open Enc in
theorem law_main (ao : Option Addr) (n cap : Nat) (ds : List Int) (hds : ds.length = n) (hn : n ≤ 1048576) (hnil : ao = none → n = 0 ∧ cap = 0) (F p ones V : Nat) (hp1 : 1 ≤ p) (hp : p ≤ 8) (hones : ones = 2 ^ p - 1) (h1 : 1 ≤ ones) (h255 : ones ≤ 255) (hP : (2 : Int) ^ p = (ones : Int) + 1) (hF : F < 256) (hd : F % 2 ^ p = 0)
    (hV : V < 18446744073709551616) (w : World) (hb : BytesAt w ao ds) :
    Calls Try.prog 3 #[.slice ao n cap, .int .u8 (F : Int), .int .u64 (p : Int), .int .u64 (V : Int)] w fun e w' => e = .returned (.bool true) ∧ Below w.heap.size w w' := by
  have hor : ∀ x : Nat, x ≤ ones → bits BinOp.or IntKind.u8 (F : Int) (x : Int) = ((F + x : Nat) : Int) := fun x hx => or_first F p x hF hd hp (by omega)
  have am := and_mask F p hF hp
  rw [hd, ← hones] at am
  have am' : bits BinOp.and IntKind.u8 (F : Int) (ones : Int) = 0 := am
  have C9 := bytes9_any ao n cap (.int .u8 (F : Int)) (.int .u64 (p : Int)) (.int .u64 (V : Int)) (by unfold maxLen; omega) w
  rw [decide_eq_true hn] at C9
  have C10 := mask_any p hp1 hp w
  rw [← hones] at C10
  have C11 := clone_any ao n cap ds hds hn w hnil hb
  have CA := fun base v w a b => zapp_any base n v ds F p ones V h1 h255 hP hp hV hor w (by omega) a b
  have CB := fun w => nilapp F p ones V h1 h255 hP hp hV hor w
  have DB := fun g c w h => dec_any g c p ones F V hp1 hp hones h1 h255 hF hd hV (enc F ones V).length rfl w h
  have L1 := enc_length F ones V
  generalize enc F ones V = xs at *
  have HP : Hid ((2 : Int) ^ p = (ones : Int) + 1) := hP
  have HD : Hid (ds.length = n) := hds
  clear hor hones hP hd am hnil hds
  go_enter Try.func3, Try.ntmps3
  go_wp2_with fail
  refine C9.mono ?_
  rintro e w0 ⟨rfl, rfl⟩
  go_wp2_with fail
  refine C10.mono ?_
  rintro e w1 ⟨rfl, rfl⟩
  go_wp2_with fail
  refine C11.mono ?_
  rintro e w2 ⟨v, rfl, hown, hb2⟩
  go_wp2_with fail
  refine (CA _ _ _ hown hb2.size).mono ?_
  rintro e w3 ⟨v', rfl, hown3, hg3⟩
  have hb3 : Below w1.heap.size w1 w3 := hb2.grown hg3.1 hb2.size (fun k hk => (hown.lt k hk).1)
  obtain ⟨g, c2, rfl, hc2, hgs⟩ : ∃ g c2, v' = .slice (some ⟨g, 0, none⟩) (n + xs.length) c2 ∧ n + xs.length ≤ c2 ∧ g < w3.heap.size := by
    have hlt := hown3.lt
    rcases hown3.2 with ⟨_, h0⟩ | ⟨g, c2, cur, rfl, _, _, hle, _, _, _⟩
    · omega
    · exact ⟨g, c2, rfl, hle, (hlt g rfl).2⟩
  have cO := bytes_of_row hown3
  clear hown hown3 hg3 hb2 C9 C10 C11 CA
  go_wp2_with fail
  refine (CB _).mono ?_
  rintro e w4 ⟨gt, ct, rfl, hct, hgt, hcT, hb4⟩
  have hB : Below w1.heap.size w1 w4 := hb3.trans (hb4.mono (by have := hb3.size; omega))
  have cO4 : ∀ i, i < n + xs.length → w4.cell? ⟨g, i, none⟩ = some (.int .u8 ((ds ++ xs).getD i 0)) := fun i hi => (hb4.cell (p := ⟨g, i, none⟩) hgs).trans (cO i hi)
  have bT : ∀ q, BytesAt (w4.drewN q) (some ⟨gt, 0, none⟩) xs := fun q i hi => ⟨gt, 0, rfl, by simpa using hcT i hi⟩
  have bD : ∀ q, BytesAt (w4.drewN q) ao ds := fun q i hi => by
    obtain ⟨b, o, e, hc⟩ := hb i hi
    exact ⟨b, o, e, by simpa using cell_later hB hc⟩
  have bO1 : ∀ q, BytesAt (w4.drewN q) (some ⟨g, 0, none⟩) ds := fun q i hi => ⟨g, 0, rfl, by
    have := HD.out
    have := cO4 i (by omega)
    simpa [List.getElem?_append_left hi] using this⟩
  have bO2 : ∀ q, BytesAt (w4.drewN q) (some ⟨g, n, none⟩) xs := fun q i hi => ⟨g, n, rfl, by
    have hd := HD.out
    have := cO4 (n + i) (by omega)
    simpa [List.getElem?_append_right (show ds.length ≤ n + i by omega), hd] using this⟩
  have K : Hid (∀ q, Calls Try.prog 14 #[.slice (some ⟨gt, 0, none⟩) xs.length ct, .int .u64 (p : Int)] (w4.drewN q) fun e w' => e = .returned (.tuple #[.int .u64 (V : Int), .int .u8 (F : Int), .bool true]) ∧ w' = w4.drewN q) := fun q => DB _ _ _ (fun i hi => by simpa using hcT i hi)
  have S1 := same_any (some ⟨g, 0, none⟩) ao n n c2 cap ds ds HD.out HD.out w4 (by unfold maxLen; omega) (by unfold maxLen; omega) (bO1 0) (bD 0)
  have S2 := fun q => same_any (some ⟨g, n, none⟩) (some ⟨gt, 0, none⟩) xs.length xs.length (c2 - n) ct xs xs rfl rfl (w4.drewN q) (by unfold maxLen; omega) (by unfold maxLen; omega) (bO2 q) (bT q)
  rw [decide_eq_true rfl] at S1 S2
  have l1 := L1.1
  have l2 := L1.2
  clear bT bD bO1 bO2 cO4 cO hcT hb hb3 hb4 DB CB L1
  go_wp2_with fail
  refine S1.mono ?_
  rintro e w5 ⟨rfl, q1, rfl⟩
  go_wp2_with fail
  refine (S2 _).mono ?_
  rintro e w5 ⟨rfl, q2, rfl⟩
  rw [World.drewN_drewN]
  go_wp2_with fail
  refine (K.out _).mono ?_
  rintro e w5 ⟨rfl, rfl⟩
  go_wp2_with fail
  go_ret
  exact ⟨rfl, below_drewN hB _⟩

theorem walk (a0 : Option Addr) (len0 cap0 : Nat) (z0 : List Int) (a1 : Int) (a2 : Int) (a3 : Int) (w : World) (w0 : IsRow .u8 w a0 len0 cap0 z0) (w1 : (Lit.int .u8 a1).wf = true) (w2 : (Lit.int .u64 a2).wf = true) (w3 : (Lit.int .u64 a3).wf = true) :
    Calls Try.prog 3 #[.slice a0 len0 cap0, .int .u8 a1, .int .u64 a2, .int .u64 a3] w fun e w' => e = .returned (.bool true) ∧ Below w.heap.size w w' := by
  have b1 := bounds_u8 w1
  have b2 := bounds_u64 w2
  have b3 := bounds_u64 w3
  clear w1 w2 w3
  obtain ⟨ds, hds, hm, hnil, hb⟩ : ∃ ds : List Int, ds.length = len0 ∧ len0 ≤ maxLen ∧ (a0 = none → len0 = 0 ∧ cap0 = 0) ∧ BytesAt w a0 ds := by
    rcases w0 with ⟨rfl, rfl, rfl, rfl⟩ | ⟨x, rfl, hl, hm, hz, hc, _⟩
    · exact ⟨[], rfl, by unfold maxLen; omega, fun _ => ⟨rfl, rfl⟩, fun i hi => by simp at hi⟩
    · refine ⟨z0.take len0, by simp; omega, by omega, fun h => by simp at h, fun i hi => ?_⟩
      simp at hi
      obtain ⟨b, off, rfl, hc'⟩ := ints_at hc (by omega)
      refine ⟨b, off, rfl, ?_⟩
      rw [hc' i (by omega)]
      simp [show i < len0 by omega]
  clear w0
  have hm' := hm
  unfold maxLen at hm'
  have C9 := bytes9_any a0 len0 cap0 (.int .u8 a1) (.int .u64 a2) (.int .u64 a3) hm w
  by_cases hn : len0 ≤ 1048576
  · by_cases hp : 1 ≤ a2 ∧ a2 ≤ 8
    · obtain ⟨F, rfl⟩ := Int.eq_ofNat_of_zero_le b1.1
      obtain ⟨p, rfl⟩ := Int.eq_ofNat_of_zero_le b2.1
      obtain ⟨V, rfl⟩ := Int.eq_ofNat_of_zero_le b3.1
      have hp1 : 1 ≤ p := by omega
      have hp8 : p ≤ 8 := by omega
      have h2 : 2 ^ p ≤ 2 ^ 8 := Nat.pow_le_pow_right (by omega) hp8
      have h2' : 2 ^ 1 ≤ 2 ^ p := Nat.pow_le_pow_right (by omega) hp1
      by_cases hd : F % 2 ^ p = 0
      · refine law_main a0 len0 cap0 ds hds hn hnil F p (2 ^ p - 1) V hp1 hp8 rfl (by omega) (by omega) ?_ (by omega) hd (by omega) w hb
        have : ((2 ^ p : Nat) : Int) = ((2 ^ p - 1 : Nat) : Int) + 1 := by omega
        rw [← this]
        simp
      · have am := Enc.and_mask F p (by omega) hp8
        have C10 := mask_any p hp1 hp8 w
        generalize 2 ^ p - 1 = ones at *
        have hne : (((F % 2 ^ p : Nat) : Int) != 0) = true := by rw [bne_iff_ne]; omega
        generalize F % 2 ^ p = m at *
        rw [decide_eq_true hn] at C9
        clear hp h2 h2' hd hb hnil hds
        go_enter Try.func3, Try.ntmps3
        go_wp2_with fail
        refine C9.mono ?_
        rintro e w1 ⟨rfl, rfl⟩
        go_wp2_with fail
        refine C10.mono ?_
        rintro e w1 ⟨rfl, rfl⟩
        go_wp2_with fail
        go_ret
        exact ⟨rfl, Below.refl _ _⟩
    · rw [decide_eq_true hn] at C9
      clear hb hnil hds
      by_cases h1 : a2 < 1
      · clear hp
        go_enter Try.func3, Try.ntmps3
        go_wp2_with fail
        refine C9.mono ?_
        rintro e w1 ⟨rfl, rfl⟩
        go_wp2_with fail
        go_ret
        exact ⟨rfl, Below.refl _ _⟩
      · have h9 : 8 < a2 := by omega
        clear hp
        go_enter Try.func3, Try.ntmps3
        go_wp2_with fail
        refine C9.mono ?_
        rintro e w1 ⟨rfl, rfl⟩
        go_wp2_with fail
        go_ret
        exact ⟨rfl, Below.refl _ _⟩
  · rw [decide_eq_false hn] at C9
    clear hb hnil hds
    go_enter Try.func3, Try.ntmps3
    go_wp2_with fail
    refine C9.mono ?_
    rintro e w1 ⟨rfl, rfl⟩
    go_wp2_with fail
    go_ret
    exact ⟨rfl, Below.refl _ _⟩

/-! ### THE ROW's STEP: WRITTEN OUT: LEAVE IT -/
set_option maxRecDepth 100000 in
theorem lifted (os : Os) (started : os.Started) (H : Type) (enc : TypeId × Value → H) :
    ReturnsInHanded {} Try.checked os 3 .any (Rows.fnAppendIntegerAppendsShortestEncodingOfVSpec.pre6 enc Try.prog Try.f3 Rows.fnAppendIntegerAppendsShortestEncodingOfVRow.domain false) (Rows.fnAppendIntegerAppendsShortestEncodingOfVSpec.post enc Try.prog Try.f3 false true false false) := by
  refine returnsInHanded_of_change (C := Try.checked) own started (by kernel_rfl) Try.func3
    (ChangeSpec.witness6 (enc := enc) (C := Try.checked) false ⟨#[], #[.slice none 0 0, .int .u8 0, .int .u64 0, .int .u64 0], []⟩ 8 (by kernel_rfl) (by kernel_rfl) (by kernel_rfl) (by kernel_rfl)) ?_
  intro W base args ds gs before hval0 hW hcnd _
  have hval : ∀ (j : Nat) t v, Try.f3.params[j]? = some t → args[j]? = some v → Value.okWide Try.prog W .any base t v := hval0
  have hW' := hW
  obtain ⟨p, q, hA0, hV, rfl, hfz, hnd⟩ := hW
  have hA : DataW.TrodAll enc Try.prog W 0 (fun _ => true) true Try.f3.params.toList args.toList ds p := hA0
  rw [Try.params3] at hA hval
  obtain ⟨v0, vs0, d0, ds0, p0, q0, hargs, rfl, rfl, h0, r0⟩ := trodAll_cons hA
  obtain ⟨v1, vs1, d1, ds1, p1, q1, rfl, rfl, rfl, h1, r1⟩ := trodAll_cons r0
  obtain ⟨v2, vs2, d2, ds2, p2, q2, rfl, rfl, rfl, h2, r2⟩ := trodAll_cons r1
  obtain ⟨v3, vs3, d3, ds3, p3, q3, rfl, rfl, rfl, h3, r3⟩ := trodAll_cons r2
  obtain ⟨rfl, rfl, rfl⟩ := trodAll_nil r3
  obtain rfl : args = #[v0, v1, v2, v3] := by cases args; simp_all
  obtain ⟨rfl, rfl⟩ := trodVars_none hV
  obtain ⟨a0, len0, cap0, rfl⟩ := okWide_slice Try.underlying22 (hval 0 22 v0 rfl rfl)
  have k0 := h0
  have lt0 : ∀ x ∈ p0, x.block < W.heap.size := by obtain ⟨m, hm⟩ := k0; exact DataW.trod_lt m _ _ _ hm
  obtain ⟨z0, w0⟩ : ∃ zs, IsRow .u8 W a0 len0 cap0 zs := by
    obtain ⟨fuel, hf⟩ := h0
    rcases open_ints Try.underlying22 Try.underlying5 (by kernel_rfl) hf with ⟨hcs, _⟩ | ⟨x, l, c, zs, hcs, _, hl, hm, hz, _, hcell, hwz⟩
    · simp [Value.cells] at hcs
      obtain ⟨rfl, rfl, rfl⟩ := hcs
      exact ⟨[], .inl ⟨rfl, rfl, rfl, rfl⟩⟩
    · simp [Value.cells] at hcs
      obtain ⟨rfl, rfl, rfl⟩ := hcs
      exact ⟨zs, .inr ⟨_, rfl, hl, hm, by simpa using hz, hcell, hwz⟩⟩
  obtain ⟨a1, rfl, rfl, rfl, w1⟩ := open_int Try.underlying5 (hval 1 5 v1 rfl rfl) h1
  obtain ⟨a2, rfl, rfl, rfl, w2⟩ := open_int Try.underlying23 (hval 2 23 v2 rfl rfl) h2
  obtain ⟨a3, rfl, rfl, rfl, w3⟩ := open_int Try.underlying24 (hval 3 24 v3 rfl rfl) h3
  clear hA0 hval0
  refine (walk a0 len0 cap0 z0 a1 a2 a3 W w0 w1 w2 w3).mono fun e W' ⟨he, bel⟩ => ?_
  subst he
  exact ⟨_, rfl, _, _, _, [], _, [], hW', trodAll_mk1 (shut_bool Try.underlying4 _), (trodAll_cons_mk (Below.trod laidOut (by kernel_rfl) (of_decide_eq_true (by kernel_rfl)) k0 bel lt0) (trodAll_cons_mk (shut_int Try.underlying5 w1) (trodAll_cons_mk (shut_int Try.underlying23 w2) (trodAll_cons_mk (shut_int Try.underlying24 w3) trodAll_mk0)))), rfl, bel.frame _, fun h => by cases h⟩

theorem over : Rows.fnAppendIntegerAppendsShortestEncodingOfVRow.holds Try.pinned (OpenSpec.ofChange Rows.fnAppendIntegerAppendsShortestEncodingOfVSpec) :=
  OpenClaim.holds_of_wide 3 Try.f3 rfl rfl rfl rfl rfl rfl rfl ⟨rfl, rfl, rfl, rfl, rfl⟩ rfl rfl rfl rfl rfl (by kernel_rfl) Try.func3 (by kernel_rfl)
    (of_decide_eq_true (by kernel_rfl)) (by unfold Func.isWrapper; first | (rw [if_pos (by decide +kernel)]; kernel_rfl) | (rw [if_neg (by decide +kernel)]; exact ⟨rfl, rfl⟩))
    (fun os started H enc _ => lifted os started H enc)

/-- ████ THE STATEMENT ████ -/
theorem proved : Rows.FnAppendIntegerAppendsShortestEncodingOfVSaid := over
#print axioms proved
end Go.Proofs.Qxb6620837a.fnAppendIntegerAppendsShortestEncodingOfV
