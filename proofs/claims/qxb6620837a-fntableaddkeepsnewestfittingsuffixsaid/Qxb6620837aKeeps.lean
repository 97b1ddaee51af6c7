/-
  THE LAW's WALK: FnTableAddKeepsNewestFittingSuffix (5).
-/
import Derived.Test.Qxb6620837aIn
import Derived.Test.Qxb6620837aLen16
import Derived.Test.Qxb6620837aNew
import Derived.Test.Qxb6620837aState
import Derived.Test.Qxb6620837aAdd
import Derived.Deep.DeepCutAuto
namespace Go.Proofs.Qxb6620837a
open Go.RowKit Win

set_option maxRecDepth 100000 in
set_option maxHeartbeats 3000000 in
theorem keeps_any (a0 : Option Addr) (n0 c0 : Nat) (xs0 : List ByteArray) (a1 : Option Addr) (n1 c1 : Nat) (xs1 : List ByteArray) (sz mx : Nat) (s4 s5 : ByteArray) (w : World)
    (h0 : StrIn w a0 n0 c0 xs0) (h1 : StrIn w a1 n1 c1 xs1) (hmx : mx < 18446744073709551616) :
    Calls Try.prog 5 #[.slice a0 n0 c0, .slice a1 n1 c1, .int .u64 (sz : Int), .int .u64 (mx : Int), .string s4, .string s5] w fun e w' => e = .returned (.bool true) ∧ Below w.heap.size w w' := by
  have CB := bytes16 a0 n0 c0 (Nat.le_trans h0.cap h0.max) xs0 h0.len a1 n1 c1 (Nat.le_trans h1.cap h1.max) xs1 h1.len s4 s5 (.int .u64 (sz : Int)) (.int .u64 (mx : Int)) w h0.at_ h1.at_
  have hq := neq_nil
  go_enter Try.func5, Try.ntmps5
  go_wp2_with fail
  refine CB.mono ?_
  rintro e w0 ⟨⟨bb, rfl⟩, rfl⟩
  clear CB
  cases bb with
  | false =>
    go_wp2_with fail
    go_ret
    exact ⟨rfl, Below.refl _ _⟩
  | true =>
    by_cases p0 : n0 ≤ 65536
    rotate_left
    · go_wp2_with fail
      go_ret
      exact ⟨rfl, Below.refl _ _⟩
    by_cases p1 : n1 ≤ 65536
    rotate_left
    · go_wp2_with fail
      go_ret
      exact ⟨rfl, Below.refl _ _⟩
    by_cases p4 : s4.size ≤ 1048576
    rotate_left
    · go_wp2_with fail
      go_ret
      exact ⟨rfl, Below.refl _ _⟩
    by_cases p5 : s5.size ≤ 1048576
    rotate_left
    · go_wp2_with fail
      go_ret
      exact ⟨rfl, Below.refl _ _⟩
    go_upto_if 56 with fail
    go_cut [0] (fun s wx => ∃ a' c', s = .slice a' n0 c' ∧ StrIn wx a' n0 c' xs0 ∧ Below w0.heap.size w0 wx)
    case first =>
      cases a0 with
      | none =>
        go_wp2
        go_meet
        case rel => exact ⟨_, _, rfl, h0, Below.refl _ _⟩
      | some a =>
        obtain ⟨mc, X, hmk, HX, HS⟩ := clone_facts h0 p0
        go_wp2_with (refine wpList_copy_splice (by rfl) (.tmp 60) (.tmp 61) 33 33 (by rfl) 9 Try.underlying33 Try.size9 _ _ _ _ _ _ (by rfl) (by rfl) w0.heap.size 0 mc 9 (heap_alloc_new w0 _) X (by rw [HX.out.2.2.1]; exact (Nat.min_self n0).symm) (fun h => ⟨rfl, HS.out h⟩) (by rw [HX.out.2.2.1, HX.out.1]; omega) HX.out.2.2.2.1 w0.heap.size w0 ((Below.refl _ _).alloc (Nat.le_refl _) _) (Nat.le_refl _) ?_; intro w1 hg1 hb1)
        go_meet
        case rel => exact ⟨_, _, rfl, clone_done h0 p0 HX hg1, hb1⟩
    case rest =>
      obtain ⟨aN, cN, rfl, hN', hB0⟩ := hcut
      have hV' := h1.below hB0
      clear h0 h1
      go_upto_if 65 with fail
      go_cut [1] (fun s wx => ∃ a' c', s = .slice a' n1 c' ∧ StrIn wx a' n1 c' xs1 ∧ Below wc.heap.size wc wx)
      case first =>
        cases a1 with
        | none =>
          go_wp2
          go_meet
          case rel => exact ⟨_, _, rfl, hV', Below.refl _ _⟩
        | some a =>
          obtain ⟨mc, X, hmk, HX, HS⟩ := clone_facts hV' p1
          go_wp2_with (refine wpList_copy_splice (by rfl) (.tmp 69) (.tmp 70) 33 33 (by rfl) 9 Try.underlying33 Try.size9 _ _ _ _ _ _ (by rfl) (by rfl) wc.heap.size 0 mc 9 (heap_alloc_new wc _) X (by rw [HX.out.2.2.1]; exact (Nat.min_self n1).symm) (fun h => ⟨rfl, HS.out h⟩) (by rw [HX.out.2.2.1, HX.out.1]; omega) HX.out.2.2.2.1 wc.heap.size wc ((Below.refl _ _).alloc (Nat.le_refl _) _) (Nat.le_refl _) ?_; intro w1 hg1 hb1)
          go_meet
          case rel => exact ⟨_, _, rfl, clone_done hV' p1 HX hg1, hb1⟩
      case rest =>
        rename World => wd
        obtain ⟨aV, cV, rfl, kV, hB1⟩ := hcut
        have kN := hN'.below hB1
        have HB : Hid (Below w0.heap.size w0 wd) := hB0.trans (hB1.mono hB0.size)
        clear hN' hV' hB0 hB1 hq
        have mN := Nat.le_trans kN.cap kN.max
        have mV := Nat.le_trans kV.cap kV.max
        have A0 : Calls Try.prog 17 #[.int .i64 (32 + (s4.size : Int) + (s5.size : Int)), .slice aN n0 cN] wd fun e w' => (∃ t : Nat, e = .returned (.int .i64 (t : Int)) ∧ t ≤ 4194304 ∧ (t ≤ 1048576 → t = 32 + s4.size + s5.size + s16 xs0)) ∧ w' = wd := adds_any aN n0 cN xs0 kN.len (32 + s4.size + s5.size) (by omega) wd mN kN.at_
        have A1 := fun t ht => adds_any aV n1 cV xs1 kV.len t ht wd mV kV.at_
        go_wp2_with fail
        refine A0.mono ?_
        rintro e w' ⟨⟨tN, rfl, uN, vN⟩, rfl⟩
        go_wp2_with fail
        refine (A1 tN uN).mono ?_
        rintro e w' ⟨⟨tV, rfl, uV, vV⟩, rfl⟩
        clear A0 A1
        by_cases ht : tV ≤ 1048576
        rotate_left
        · clear vN vV
          go_wp2_with fail
          go_ret
          exact ⟨rfl, HB.out⟩
        have hsum : 32 + s4.size + s5.size + s16 xs0 + s16 xs1 ≤ 1048576 := by have e1 := vV ht; have e0 := vN (by omega); omega
        clear vN vV
        by_cases hn : n0 = n1
        rotate_left
        · have CH := holds_ne aN aV n0 n1 cN cV hn (sz : Int) (mx : Int) w'
          go_wp2_with fail
          refine CH.mono ?_
          rintro e w'' ⟨rfl, rfl⟩
          go_wp2_with fail
          go_ret
          exact ⟨rfl, HB.out⟩
        subst hn
        obtain ⟨z1, z2, z3⟩ := zip_maps xs0 xs1 (kN.len.trans kV.len.symm)
        have zw := wt_zip xs0 xs1 (kN.len.trans kV.len.symm)
        obtain ⟨fs, hfs⟩ : ∃ fs : List Fld, fs = xs0.zip xs1 := ⟨_, rfl⟩
        rw [← hfs] at z1 z2 z3 zw
        have hlen : fs.length = n0 := z3.trans kN.len
        have hwt : wt fs ≤ 1048576 := by omega
        have hwt4 : wt fs ≤ 4194304 := by omega
        have q0 : StrsAt w' aN (fs.map Prod.fst) := by rw [z1]; exact kN.at_
        have q1 : StrsAt w' aV (fs.map Prod.snd) := by rw [z2]; exact kV.at_
        have CH := holds_eq aN aV n0 cN cV fs hlen hwt4 sz mx w' mN q0 q1
        have HZ : Hid (fs.map Prod.fst = xs0 ∧ fs.map Prod.snd = xs1 ∧ wt fs = s16 xs0 + s16 xs1) := ⟨z1, z2, zw⟩
        clear z1 z2 z3 zw hfs
        by_cases hh : sz = wt fs ∧ sz ≤ mx
        rotate_left
        · rw [decide_eq_false hh] at CH
          go_wp2_with fail
          refine CH.mono ?_
          rintro e w'' ⟨rfl, q, rfl⟩
          go_wp2_with fail
          go_ret
          exact ⟨rfl, below_drewN HB.out _⟩
        rw [decide_eq_true hh] at CH
        have HH : Hid (sz = wt fs) := hh.1
        have hh2 : sz ≤ mx := hh.2
        have hwx : wt fs ≤ mx := by have := hh.1; omega
        clear hh
        go_wp2_with fail
        refine CH.mono ?_
        rintro e w'' ⟨rfl, q, rfl⟩
        have HBq : Hid (Below w0.heap.size w0 (w'.drewN q)) := below_drewN HB.out q
        have q0 := q0.drewN q
        have q1 := q1.drewN q
        generalize hw2 : w'.drewN q = w2 at *
        clear hw2 CH
        have CN := newtab_any aN aV n0 cN cV fs hlen (by omega) sz mx w2 q0 q1
        go_wp2_with fail
        refine CN.mono ?_
        rintro e w3 ⟨tb, g, rfl, htb, hg, hT, hB2⟩
        rw [HH.out] at hT
        have HB2 : Hid (Below w2.heap.size w2 w3) := hB2
        have Z := zadd_any tb 63 [] [] 0 rfl g fs mx hmx hwt4 s4 s5 (by omega) (by omega) w3 hT
        clear CN hT hB2
        go_wp2_with fail
        refine Z.mono ?_
        rintro e w4 ⟨rfl, g', i, hi, hg', hT, hF⟩
        have hB4 : Below w2.heap.size w2 w4 := HB2.out.trans (hF.below htb hg HB2.out.size)
        have q0 := q0.below hB4
        have q1 := q1.below hB4
        have HB4 : Hid (Below w0.heap.size w0 w4) := HBq.out.trans (hB4.mono HBq.out.size)
        have hww : w1 (s4, s5) = s4.size + s5.size + 32 := rfl
        obtain ⟨all, hall'⟩ : ∃ all : List Fld, all = fs ++ [(s4, s5)] := ⟨_, rfl⟩
        have halln : all.map Prod.fst = fs.map Prod.fst ++ [s4] := by rw [hall', List.map_append]; rfl
        have hallv : all.map Prod.snd = fs.map Prod.snd ++ [s5] := by rw [hall', List.map_append]; rfl
        have hallw : wt all = wt fs + w1 (s4, s5) := by rw [hall', wt_append]; simp [wt]
        have halll : all.length = n0 + 1 := by rw [hall', List.length_append, hlen]; rfl
        have hallm : wt all ≤ 4194304 := by have := HZ.out.2.2; omega
        rw [← hall'] at hi hT
        have HALL : Hid (all.map Prod.fst = fs.map Prod.fst ++ [s4] ∧ all.map Prod.snd = fs.map Prod.snd ++ [s5] ∧ wt all = wt fs + w1 (s4, s5) ∧ all.length = n0 + 1) := ⟨halln, hallv, hallw, halll⟩
        have HI : Hid (IsWin all mx i) := hi
        have hil := hi.1
        have C21 := state_any tb 63 [] [] 0 rfl g' (all.drop i) (wt (all.drop i)) mx (n0 + 1 - i) (by rw [List.length_drop, halll]) (by omega) w4 hT
        rw [halll] at hil
        have HFL : Hid (fs.length = n0 ∧ wt fs = sz) := ⟨hlen, HH.out.symm⟩
        clear hall' halln hallv hallw hww Z hT hi hB4 hF
        generalize hwD : wt (all.drop i) = wD at *
        have HWD : Hid (wt (all.drop i) = wD) := hwD
        clear hwD
        go_wp2_with fail
        refine C21.mono ?_
        rintro e w5 ⟨rfl, sN, sV, hB5⟩
        have q0 := q0.below hB5
        have q1 := q1.below hB5
        have HB5 : Hid (Below w0.heap.size w0 w5) := HB4.out.trans (hB5.mono HB4.out.size)
        clear C21 hB5
        have hA : Below w5.heap.size w5 (w5.alloc (.cells #[.string s4] 9)) := (Below.refl _ _).alloc (Nat.le_refl _) _
        have q0 := q0.below hA
        have q1 := q1.below hA
        have sN := sN.below hA
        have sV := sV.below hA
        have HB6 : Hid (Below w0.heap.size w0 (w5.alloc (.cells #[.string s4] 9))) := HB5.out.trans (hA.mono HB5.out.size)
        have k4 : StrsAt (w5.alloc (.cells #[.string s4] 9)) (some ⟨w5.heap.size, 0, none⟩) [s4] := strs_of_blk (Blk.new w5 [.string s4] 9)
        have C22 := join_any aN (some ⟨w5.heap.size, 0, none⟩) n0 1 cN 1 (fs.map Prod.fst) [s4] (by simpa using hlen) rfl (by omega) (by omega) _ q0 k4
        clear hA k4
        go_wp2_with fail
        refine C22.mono ?_
        rintro e w6 ⟨rfl, jN, hB6, hs6⟩
        have q1 := q1.below hB6
        have sN := sN.below hB6
        have sV := sV.below hB6
        have HB7 : Hid (Below w0.heap.size w0 w6) := HB6.out.trans (hB6.mono HB6.out.size)
        rw [← HALL.out.1] at jN
        clear hB6 C22 q0 hs6
        generalize hbN : (w5.alloc (.cells #[.string s4] 9)).heap.size = bN at *
        clear hbN
        have hA : Below w6.heap.size w6 (w6.alloc (.cells #[.string s5] 9)) := (Below.refl _ _).alloc (Nat.le_refl _) _
        have q1 := q1.below hA
        have jN := jN.below hA
        have sN := sN.below hA
        have sV := sV.below hA
        have HB8 : Hid (Below w0.heap.size w0 (w6.alloc (.cells #[.string s5] 9))) := HB7.out.trans (hA.mono HB7.out.size)
        have k5 : StrsAt (w6.alloc (.cells #[.string s5] 9)) (some ⟨w6.heap.size, 0, none⟩) [s5] := strs_of_blk (Blk.new w6 [.string s5] 9)
        have C22 := join_any aV (some ⟨w6.heap.size, 0, none⟩) n0 1 cV 1 (fs.map Prod.snd) [s5] (by simpa using hlen) rfl (by omega) (by omega) _ q1 k5
        clear hA k5
        go_wp2_with fail
        refine C22.mono ?_
        rintro e w7 ⟨rfl, jV, hB9, hs9⟩
        have jN := jN.below hB9
        have sN := sN.below hB9
        have sV := sV.below hB9
        have HB9 : Hid (Below w0.heap.size w0 w7) := HB8.out.trans (hB9.mono HB8.out.size)
        rw [← HALL.out.2.1] at jV
        clear hB9 C22 q1 hs9
        generalize hbV : (w6.alloc (.cells #[.string s5] 9)).heap.size = bV at *
        clear hbV
        have CE := entry_any s4 s5 (by omega) (by omega) w7
        have hxx : w1 (s4, s5) ≤ 4194304 := by simp only [w1]; omega
        have hsz : sz ≤ 1048576 := by have := HH.out; omega
        generalize hx1 : w1 (s4, s5) = x at *
        clear hx1
        have CN2 : Calls Try.prog 19 #[.slice (some ⟨bN, 0, none⟩) (n0 + 1) (n0 + 1), .slice (some ⟨bV, 0, none⟩) (n0 + 1) (n0 + 1), .int .u64 ((sz : Int) + (x : Int)), .int .u64 (mx : Int)] w7 fun e w' => ∃ tb g, e = .returned (.pointer (some ⟨tb, 0, none⟩)) ∧ w7.heap.size ≤ tb ∧ w7.heap.size ≤ g ∧ Tab w' tb 63 [] [] g all (sz + x) mx ∧ Below w7.heap.size w7 w' := by
          have h := newtab_any (some ⟨bN, 0, none⟩) (some ⟨bV, 0, none⟩) (n0 + 1) (n0 + 1) (n0 + 1) all HALL.out.2.2.2 (by omega) (sz + x) mx w7 jN jV
          rwa [Int.natCast_add] at h
        go_wp2_with fail
        refine CE.mono ?_
        rintro e w8 ⟨rfl, rfl⟩
        go_wp2_with fail
        refine CN2.mono ?_
        rintro e w9 ⟨ub, ug, rfl, hub, hug, hT, hB10⟩
        have hsx : sz + x = wt all := by have h1 := HALL.out.2.2.1; have h2 := HFL.out.2; omega
        rw [hsx] at hT
        have CZ := zset_any ub 63 [] [] 0 rfl ug all mx mx hallm w9 hT
        have HB10 : Hid (Below w8.heap.size w8 w9) := hB10
        clear CE CN2 hsx hT hB10
        go_wp2_with fail
        refine CZ.mono ?_
        rintro e w10 ⟨rfl, j, hj, hT, hF⟩
        obtain rfl := HI.out.uniq hj
        rw [HWD.out] at hT
        have hB11 : Below w8.heap.size w8 w10 := HB10.out.trans (hF.below hub hug HB10.out.size)
        have jN := jN.below hB11
        have jV := jV.below hB11
        have sN := sN.below hB11
        have sV := sV.below hB11
        have HB11 : Hid (Below w0.heap.size w0 w10) := HB9.out.trans (hB11.mono HB9.out.size)
        have C21 := state_any ub 63 [] [] 0 rfl ug (all.drop i) wD mx (n0 + 1 - i) (by rw [List.length_drop, halll]) (by omega) w10 hT
        clear hj hT hF hB11 CZ
        go_wp2_with fail
        refine C21.mono ?_
        rintro e w11 ⟨rfl, rN, rV, hB12⟩
        have jN := jN.below hB12
        have jV := jV.below hB12
        have sN := sN.below hB12
        have sV := sV.below hB12
        have HB12 : Hid (Below w0.heap.size w0 w11) := HB11.out.trans (hB12.mono HB11.out.size)
        have C25 := win_any (some ⟨bN, 0, none⟩) (some ⟨bV, 0, none⟩) (n0 + 1) (n0 + 1) (n0 + 1) all halll hallm mx hmx w11 (by unfold maxLen; omega) jN jV
        clear hB12 C21
        go_wp2_with fail
        refine C25.mono ?_
        rintro e w12 ⟨⟨i6, rfl, hi6⟩, q6, rfl⟩
        obtain rfl := HI.out.uniq hi6
        clear C25 hi6
        have hDl : (all.drop i).length = n0 + 1 - i := by rw [List.length_drop, halll]
        have hDw : wt (all.drop i) ≤ 4194304 := by have := wt_drop_le all i; omega
        have hbm : ((mx : Int) == (mx : Int)) = true := by simp
        have hbw : ((wD : Int) == (wD : Int)) = true := by simp
        have EF2 := end_facts (some ⟨w10.heap.size, 0, none⟩) (some ⟨w10.heap.size + 1, 0, none⟩) (some ⟨w4.heap.size, 0, none⟩) (some ⟨w4.heap.size + 1, 0, none⟩) (n0 + 1 - i) (n0 + 1 - i) (n0 + 1 - i) (n0 + 1 - i) (n0 + 1 - i) (all.drop i) wD HWD.out hDl (by omega) hDw w11 rN rV sN sV
        by_cases hend : i < n0 + 1
        · have jN2 := jN.drop i
          have jV2 := jV.drop i
          rw [← List.map_drop, Nat.zero_add] at jN2 jV2
          have EF := end_facts _ _ _ _ (n0 + 1 - i) (n0 + 1 - i) (n0 + 1 - i) (n0 + 1 - i) (n0 + 1 - i) (all.drop i) wD HWD.out hDl (by omega) hDw w11 sN sV jN2 jV2
          clear sN sV jN jV jN2 jV2 halll hallm hDl hDw rN rV
          go_wp2_with fail
          refine (EF.out.1 _).mono ?_
          rintro e w13 ⟨rfl, q7, rfl⟩
          go_wp2_with fail
          refine (EF.out.2.1 _).mono ?_
          rintro e w14 ⟨rfl, q8, rfl⟩
          go_wp2_with fail
          refine (EF.out.2.2 _).mono ?_
          rintro e w15 ⟨rfl, q9, rfl⟩
          go_wp2_with fail
          refine (EF2.out.1 _).mono ?_
          rintro e w16 ⟨rfl, q10, rfl⟩
          go_wp2_with fail
          refine (EF2.out.2.1 _).mono ?_
          rintro e w17 ⟨rfl, q11, rfl⟩
          go_wp2_with fail
          go_ret
          exact ⟨rfl, below_drewN HB12.out _⟩
        · have hnil : all.drop i = [] := List.eq_nil_of_length_eq_zero (by omega)
          have hi1 : n0 + 1 - i = 0 := by omega
          rw [hnil] at sN sV
          rw [hi1] at EF2
          have EF := end_facts (some ⟨w4.heap.size, 0, none⟩) (some ⟨w4.heap.size + 1, 0, none⟩) (some ⟨bN, 0, none⟩) (some ⟨bV, 0, none⟩) 0 0 0 0 0 [] wD (by rw [← hnil]; exact HWD.out) rfl (by omega) (by simp [wt]) w11 sN sV (fun i hi => by simp at hi) (fun i hi => by simp at hi)
          clear sN sV jN jV halll hallm hDl hDw rN rV hnil hi1
          go_wp2_with fail
          refine (EF.out.1 _).mono ?_
          rintro e w13 ⟨rfl, q7, rfl⟩
          go_wp2_with fail
          refine (EF.out.2.1 _).mono ?_
          rintro e w14 ⟨rfl, q8, rfl⟩
          go_wp2_with fail
          refine (EF.out.2.2 _).mono ?_
          rintro e w15 ⟨rfl, q9, rfl⟩
          go_wp2_with fail
          refine (EF2.out.1 _).mono ?_
          rintro e w16 ⟨rfl, q10, rfl⟩
          go_wp2_with fail
          refine (EF2.out.2.1 _).mono ?_
          rintro e w17 ⟨rfl, q11, rfl⟩
          go_wp2_with fail
          go_ret
          exact ⟨rfl, below_drewN HB12.out _⟩

end Go.Proofs.Qxb6620837a
