/-
  THE LAW's WALK: FnEncoderSetTableSizeIdempotent (8).
-/
import Derived.Test.Qxb6620837aIn
import Derived.Test.Qxb6620837aLen34
import Derived.Test.Qxb6620837aEncoder
import Derived.Deep.DeepCutAuto
namespace Go.Proofs.Qxb6620837a
open Go.RowKit Win

theorem nextR_twice (r : Bool) (mx n : Nat) : nextR (nextR r mx n) n n = nextR r mx n := by simp [nextR]
theorem nextL_twice (r : Bool) (low mx n : Nat) : nextL (nextR r mx n) (nextL r low mx n) n n = nextL r low mx n := by
  unfold nextR nextL
  cases r
  · by_cases h : n = mx <;> simp [h]
  · simp

set_option maxRecDepth 100000 in
set_option maxHeartbeats 3000000 in
theorem idem_any (h : Bool) (a1 : Option Addr) (n1 c1 : Nat) (xs1 : List ByteArray) (a2 : Option Addr) (n2 c2 : Nat) (xs2 : List ByteArray) (sz mx : Nat) (r : Bool) (low n : Nat) (w : World)
    (h1 : StrIn w a1 n1 c1 xs1) (h2 : StrIn w a2 n2 c2 xs2) (hmx : mx < 18446744073709551616) (hlow : low < 18446744073709551616) (hnn : n ≤ 4294967295) :
    Calls Try.prog 8 #[.bool h, .slice a1 n1 c1, .slice a2 n2 c2, .int .u64 (sz : Int), .int .u64 (mx : Int), .bool r, .int .u64 (low : Int), .int .u32 (n : Int)] w fun e w' => e = .returned (.bool true) ∧ Below w.heap.size w w' := by
  have CB := bytes34 a1 n1 c1 (Nat.le_trans h1.cap h1.max) xs1 h1.len a2 n2 c2 (Nat.le_trans h2.cap h2.max) xs2 h2.len (.bool h) (.int .u64 (sz : Int)) (.int .u64 (mx : Int)) (.bool r) (.int .u64 (low : Int)) (.int .u32 (n : Int)) w h1.at_ h2.at_
  have hq := neq_nil
  go_enter Try.func8, Try.ntmps8
  go_wp2_with fail
  refine CB.mono ?_
  rintro e w0 ⟨⟨bb, rfl⟩, rfl⟩
  clear CB
  cases bb with
  | false =>
    go_wp2_with fail
    go_ret
    exact ⟨rfl, Below.refl _ _⟩
  | true =>
    by_cases p1 : n1 ≤ 65536
    rotate_left
    · go_wp2_with fail
      go_ret
      exact ⟨rfl, Below.refl _ _⟩
    by_cases p2 : n2 ≤ 65536
    rotate_left
    · go_wp2_with fail
      go_ret
      exact ⟨rfl, Below.refl _ _⟩
    go_upto_if 57 with fail
    go_cut [1] (fun s wx => ∃ a' c', s = .slice a' n1 c' ∧ StrIn wx a' n1 c' xs1 ∧ Below w0.heap.size w0 wx)
    case first =>
      cases a1 with
      | none =>
        go_wp2
        go_meet
        case rel => exact ⟨_, _, rfl, h1, Below.refl _ _⟩
      | some a =>
        obtain ⟨mc, X, hmk, HX, HS⟩ := clone_facts h1 p1
        go_wp2_with (refine wpList_copy_splice (by rfl) (.tmp 61) (.tmp 62) 33 33 (by rfl) 9 Try.underlying33 Try.size9 _ _ _ _ _ _ (by rfl) (by rfl) w0.heap.size 0 mc 9 (heap_alloc_new w0 _) X (by rw [HX.out.2.2.1]; exact (Nat.min_self n1).symm) (fun h => ⟨rfl, HS.out h⟩) (by rw [HX.out.2.2.1, HX.out.1]; omega) HX.out.2.2.2.1 w0.heap.size w0 ((Below.refl _ _).alloc (Nat.le_refl _) _) (Nat.le_refl _) ?_; intro w1 hg1 hb1)
        go_meet
        case rel => exact ⟨_, _, rfl, clone_done h1 p1 HX hg1, hb1⟩
    case rest =>
      obtain ⟨aN, cN, rfl, hN', hB0⟩ := hcut
      have hV' := h2.below hB0
      clear h1 h2
      go_upto_if 66 with fail
      go_cut [2] (fun s wx => ∃ a' c', s = .slice a' n2 c' ∧ StrIn wx a' n2 c' xs2 ∧ Below wc.heap.size wc wx)
      case first =>
        cases a2 with
        | none =>
          go_wp2
          go_meet
          case rel => exact ⟨_, _, rfl, hV', Below.refl _ _⟩
        | some a =>
          obtain ⟨mc, X, hmk, HX, HS⟩ := clone_facts hV' p2
          go_wp2_with (refine wpList_copy_splice (by rfl) (.tmp 70) (.tmp 71) 33 33 (by rfl) 9 Try.underlying33 Try.size9 _ _ _ _ _ _ (by rfl) (by rfl) wc.heap.size 0 mc 9 (heap_alloc_new wc _) X (by rw [HX.out.2.2.1]; exact (Nat.min_self n2).symm) (fun h => ⟨rfl, HS.out h⟩) (by rw [HX.out.2.2.1, HX.out.1]; omega) HX.out.2.2.2.1 wc.heap.size wc ((Below.refl _ _).alloc (Nat.le_refl _) _) (Nat.le_refl _) ?_; intro w1 hg1 hb1)
          go_meet
          case rel => exact ⟨_, _, rfl, clone_done hV' p2 HX hg1, hb1⟩
      case rest =>
        rename World => wd
        obtain ⟨aV, cV, rfl, kV, hB1⟩ := hcut
        have kN := hN'.below hB1
        have HB : Hid (Below w0.heap.size w0 wd) := hB0.trans (hB1.mono hB0.size)
        clear hN' hV' hB0 hB1 hq
        have mN := Nat.le_trans kN.cap kN.max
        have mV := Nat.le_trans kV.cap kV.max
        have A0 : Calls Try.prog 17 #[.int .i64 0, .slice aN n1 cN] wd fun e w' => (∃ t : Nat, e = .returned (.int .i64 (t : Int)) ∧ t ≤ 4194304 ∧ (t ≤ 1048576 → t = 0 + s16 xs1)) ∧ w' = wd := adds_any aN n1 cN xs1 kN.len 0 (by omega) wd mN kN.at_
        have A1 := fun t ht => adds_any aV n2 cV xs2 kV.len t ht wd mV kV.at_
        go_wp2_with fail
        refine A0.mono ?_
        rintro e w' ⟨⟨tN, rfl, uN, vN⟩, rfl⟩
        go_wp2_with fail
        refine (A1 tN uN).mono ?_
        rintro e w' ⟨⟨tV, rfl, uV, vV⟩, rfl⟩
        clear A0 A1
        by_cases ht : tV ≤ 1048576
        rotate_left
        · clear vN vV
          go_wp2_with fail
          go_ret
          exact ⟨rfl, HB.out⟩
        have hsum : s16 xs1 + s16 xs2 ≤ 1048576 := by have e1 := vV ht; have e0 := vN (by omega); omega
        clear vN vV
        by_cases hn : n1 = n2
        rotate_left
        · have CH := holds_ne aN aV n1 n2 cN cV hn (sz : Int) (mx : Int) w'
          go_wp2_with fail
          refine CH.mono ?_
          rintro e w'' ⟨rfl, rfl⟩
          go_wp2_with fail
          go_ret
          exact ⟨rfl, HB.out⟩
        subst hn
        obtain ⟨z1, z2, z3⟩ := zip_maps xs1 xs2 (kN.len.trans kV.len.symm)
        have zw := wt_zip xs1 xs2 (kN.len.trans kV.len.symm)
        obtain ⟨fs, hfs⟩ : ∃ fs : List Fld, fs = xs1.zip xs2 := ⟨_, rfl⟩
        rw [← hfs] at z1 z2 z3 zw
        have hlen : fs.length = n1 := z3.trans kN.len
        have hwt : wt fs ≤ 1048576 := by omega
        have hwt4 : wt fs ≤ 4194304 := by omega
        have q0 : StrsAt w' aN (fs.map Prod.fst) := by rw [z1]; exact kN.at_
        have q1 : StrsAt w' aV (fs.map Prod.snd) := by rw [z2]; exact kV.at_
        have CH := holds_eq aN aV n1 cN cV fs hlen hwt4 sz mx w' mN q0 q1
        have HZ : Hid (fs.map Prod.fst = xs1 ∧ fs.map Prod.snd = xs2 ∧ wt fs = s16 xs1 + s16 xs2) := ⟨z1, z2, zw⟩
        clear z1 z2 z3 zw hfs
        by_cases hh : sz = wt fs ∧ sz ≤ mx
        rotate_left
        · rw [decide_eq_false hh] at CH
          go_wp2_with fail
          refine CH.mono ?_
          rintro e w'' ⟨rfl, q, rfl⟩
          go_wp2_with fail
          go_ret
          exact ⟨rfl, below_drewN HB.out _⟩
        rw [decide_eq_true hh] at CH
        have HH : Hid (sz = wt fs) := hh.1
        have hh2 : sz ≤ mx := hh.2
        have hwx : wt fs ≤ mx := by have := hh.1; omega
        clear hh
        go_wp2_with fail
        refine CH.mono ?_
        rintro e w'' ⟨rfl, q, rfl⟩
        have HBq : Hid (Below w0.heap.size w0 (w'.drewN q)) := below_drewN HB.out q
        have q0 := q0.drewN q
        have q1 := q1.drewN q
        generalize hw2 : w'.drewN q = w2 at *
        clear hw2 CH
        have CE := fun W (b0 : StrsAt W aN (fs.map Prod.fst)) (b1 : StrsAt W aV (fs.map Prod.snd)) => newenc_any h aN aV n1 cN cV fs hlen (by omega) sz mx r low W b0 b1
        go_wp2_with fail
        refine (CE _ q0 q1).mono ?_
        rintro e w3 ⟨eb, g, rfl, heb, hg, hT, hB3⟩
        rw [HH.out] at hT
        have BB3 : Hid (Below w2.heap.size w2 w3) := hB3
        have CS := setsize_any eb h r low g fs mx n hwt4 hwx hnn w3 hT
        clear hT hB3
        generalize hr1 : nextR r mx n = r1 at *
        generalize hl1 : nextL r low mx n = l1 at *
        have HR : Hid (nextR r mx n = r1) := hr1
        have HL : Hid (nextL r low mx n = l1) := hl1
        clear hr1 hl1
        go_wp2_with fail
        refine CS.mono ?_
        rintro e w4 ⟨rfl, j, hj, hT, hF⟩
        have HJ : Hid (IsWin fs n j) := hj
        have BB4 : Hid (Below w2.heap.size w2 w4) := BB3.out.trans (hF.below heb hg BB3.out.size)
        have T1 : Hid (Tab w4 eb 67 [.bool h] [.bool r1, .int .u64 (l1 : Int)] g (fs.drop j) (wt (fs.drop j)) n) := hT
        clear hj hF hT CS
        go_wp2_with fail
        refine (CE _ (q0.below BB4.out) (q1.below BB4.out)).mono ?_
        rintro e w5 ⟨eb2, g2, rfl, heb2, hg2, hT, hB5⟩
        rw [HH.out] at hT
        have BB5 : Hid (Below w2.heap.size w2 w5) := BB4.out.trans (hB5.mono BB4.out.size)
        have T15 := T1.out.below' hB5
        have hlt := T1.out.lt'
        have CS2 := setsize_any eb2 h r low g2 fs mx n hwt4 hwx hnn w5 hT
        rw [HR.out, HL.out] at CS2
        clear hT hB5 CE
        go_wp2_with fail
        refine CS2.mono ?_
        rintro e w6 ⟨rfl, j2, hj2, hT, hF⟩
        obtain rfl := HJ.out.uniq hj2
        have BB6 : Hid (Below w2.heap.size w2 w6) := BB5.out.trans (hF.below (Nat.le_trans BB4.out.size heb2) (Nat.le_trans BB4.out.size hg2) BB5.out.size)
        have T16 := T15.same' (hF.block eb (T15.lt'.1) (by omega) (by omega)) (hF.block g (T15.lt'.2) (by omega) (by omega))
        have hDw : wt (fs.drop j) ≤ n := HJ.out.2.1
        have hDw4 : wt (fs.drop j) ≤ 4194304 := by have := wt_drop_le fs j; omega
        have CS3 := setsize_any eb2 h r1 l1 g2 (fs.drop j) n n hDw4 hDw hnn w6 hT
        have et1 : nextR r1 n n = r1 := by have := nextR_twice r mx n; rw [HR.out] at this; exact this
        have et2 : nextL r1 l1 n n = l1 := by have := nextL_twice r low mx n; rw [HR.out, HL.out] at this; exact this
        rw [et1, et2] at CS3
        clear hj2 CS2 hT hF T15 et1 et2
        go_wp2_with fail
        refine CS3.mono ?_
        rintro e w7 ⟨rfl, j3, hj3, hT, hF⟩
        obtain rfl := (IsWin.zero hDw).uniq hj3
        rw [List.drop_zero] at hT
        have BB7 : Hid (Below w2.heap.size w2 w7) := BB6.out.trans (hF.below (Nat.le_trans BB4.out.size heb2) (Nat.le_trans BB4.out.size hg2) BB6.out.size)
        have T17 := T16.same' (hF.block eb (T16.lt'.1) (by omega) (by omega)) (hF.block g (T16.lt'.2) (by omega) (by omega))
        have hjn := HJ.out.1
        rw [hlen] at hjn
        have hDl : (fs.drop j).length = n1 - j := by rw [List.length_drop, hlen]
        have C1 := encstate_any eb h r1 l1 g (fs.drop j) (wt (fs.drop j)) n (n1 - j) hDl (by omega) w7 T17
        clear hj3 CS3 hF T16
        go_wp2_with fail
        refine C1.mono ?_
        rintro e w8 ⟨rfl, s1, s2, hB8⟩
        have BB8 : Hid (Below w2.heap.size w2 w8) := BB7.out.trans (hB8.mono BB7.out.size)
        have T28 := hT.below' hB8
        have C2 := encstate_any eb2 h r1 l1 g2 (fs.drop j) (wt (fs.drop j)) n (n1 - j) hDl (by omega) w8 T28
        clear hT hB8 C1 T17
        go_wp2_with fail
        refine C2.mono ?_
        rintro e w9 ⟨rfl, s3, s4, hB9⟩
        have s1 := s1.below hB9
        have s2 := s2.below hB9
        have BB9 : Hid (Below w2.heap.size w2 w9) := BB8.out.trans (hB9.mono BB8.out.size)
        have q0 := q0.below BB9.out
        have q1 := q1.below BB9.out
        have EF := end_facts _ _ _ _ (n1 - j) (n1 - j) (n1 - j) (n1 - j) (n1 - j) (fs.drop j) _ rfl hDl (by omega) hDw4 w9 s1 s2 s3 s4
        have EF2 := end_facts _ _ _ _ (n1 - j) (n1 - j) (n1 - j) (n1 - j) (n1 - j) (fs.drop j) _ rfl hDl (by omega) hDw4 w9 s1 s2 s1 s2
        have SF1 : Hid (∀ q, Calls Try.prog 35 #[.slice aN n1 cN, .slice (some ⟨w7.heap.size, 0, none⟩) (n1 - j) (n1 - j)] (w9.drewN q) fun e w' => e = .returned (.bool true) ∧ ∃ q', w' = (w9.drewN q).drewN q') := fun q => by
          have := suffix_any aN (some ⟨w7.heap.size, 0, none⟩) n1 (n1 - j) cN (n1 - j) (fs.map Prod.fst) ((fs.drop j).map Prod.fst) (by simpa using hlen) (by simpa using hDl) (by omega) kN.cap kN.nil (w9.drewN q) mN (q0.drewN q) (s1.drewN q)
          rwa [decide_eq_true (by rw [show n1 - (n1 - j) = j from by omega, List.map_drop])] at this
        have SF2 : Hid (∀ q, Calls Try.prog 35 #[.slice aV n1 cV, .slice (some ⟨w7.heap.size + 1, 0, none⟩) (n1 - j) (n1 - j)] (w9.drewN q) fun e w' => e = .returned (.bool true) ∧ ∃ q', w' = (w9.drewN q).drewN q') := fun q => by
          have := suffix_any aV (some ⟨w7.heap.size + 1, 0, none⟩) n1 (n1 - j) cV (n1 - j) (fs.map Prod.snd) ((fs.drop j).map Prod.snd) (by simpa using hlen) (by simpa using hDl) (by omega) kV.cap kV.nil (w9.drewN q) mV (q1.drewN q) (s2.drewN q)
          rwa [decide_eq_true (by rw [show n1 - (n1 - j) = j from by omega, List.map_drop])] at this
        have HFIN : Hid (∀ q, Below w0.heap.size w0 (w9.drewN q)) := fun q => below_drewN (HBq.out.trans (BB9.out.mono HBq.out.size)) q
        have hcase : (r = true ∧ r1 = true ∧ l1 ≤ n) ∨ (r = false ∧ r1 = false ∧ l1 = low ∧ n = mx) ∨ (r = false ∧ r1 = true ∧ l1 ≤ n ∧ n ≠ mx) := by
          have e1 := HR.out
          have e2 := HL.out
          cases r
          · by_cases he : n = mx
            · refine .inr (.inl ⟨rfl, ?_, ?_, he⟩)
              · rw [← e1]; simp [nextR, he]
              · rw [← e2]; simp [nextL, he]
            · refine .inr (.inr ⟨rfl, ?_, ?_, he⟩)
              · rw [← e1]; simp [nextR, he]
              · rw [← e2]; simp [nextL, he]
          · refine .inl ⟨rfl, ?_, ?_⟩
            · rw [← e1]; simp [nextR]
            · rw [← e2]; simp [nextL]; omega
        generalize wt (fs.drop j) = wD at *
        clear hB9 C2 T28 s1 s2 s3 s4 q0 q1 hDl kN kV HZ HH T1 HJ hlen hwt hwt4 hwx hDw4
        have hb1 : ((wD : Int) == (wD : Int)) = true := by simp
        have hb2 : ((n : Int) == (n : Int)) = true := by simp
        have hb3 : ((l1 : Int) == (l1 : Int)) = true := by simp
        have hb5 : (h == h) = true := by simp
        have hb6 : (r1 == r1) = true := by simp
        have E1 := EF.out.1 0
        rw [World.drewN_zero] at E1
        go_wp2_with fail
        refine E1.mono ?_
        rintro e w10 ⟨rfl, q10, rfl⟩
        clear E1
        go_wp2_with fail
        refine (EF.out.2.1 _).mono ?_
        rintro e w10 ⟨rfl, q11, rfl⟩
        rcases hcase with ⟨rfl, rfl, hl⟩ | ⟨rfl, rfl, rfl, rfl⟩ | ⟨rfl, rfl, hl, hne⟩
        · go_wp2_with fail
          refine (SF1.out _).mono ?_
          rintro e w10 ⟨rfl, q12, rfl⟩
          rw [World.drewN_drewN]
          go_wp2_with fail
          refine (SF2.out _).mono ?_
          rintro e w10 ⟨rfl, q13, rfl⟩
          rw [World.drewN_drewN]
          go_wp2_with fail
          refine (EF2.out.2.2 _).mono ?_
          rintro e w10 ⟨rfl, q14, rfl⟩
          go_wp2_with fail
          go_ret
          exact ⟨rfl, HFIN.out _⟩
        · go_wp2_with fail
          refine (SF1.out _).mono ?_
          rintro e w10 ⟨rfl, q12, rfl⟩
          rw [World.drewN_drewN]
          go_wp2_with fail
          refine (SF2.out _).mono ?_
          rintro e w10 ⟨rfl, q13, rfl⟩
          rw [World.drewN_drewN]
          go_wp2_with fail
          refine (EF2.out.2.2 _).mono ?_
          rintro e w10 ⟨rfl, q14, rfl⟩
          have hb7 : ((n : Int) != (n : Int)) = false := by simp
          go_wp2_with fail
          go_ret
          exact ⟨rfl, HFIN.out _⟩
        · have hb7 : ((n : Int) != (mx : Int)) = true := by rw [bne_iff_ne]; omega
          clear hne
          go_wp2_with fail
          refine (SF1.out _).mono ?_
          rintro e w10 ⟨rfl, q12, rfl⟩
          rw [World.drewN_drewN]
          go_wp2_with fail
          refine (SF2.out _).mono ?_
          rintro e w10 ⟨rfl, q13, rfl⟩
          rw [World.drewN_drewN]
          go_wp2_with fail
          refine (EF2.out.2.2 _).mono ?_
          rintro e w10 ⟨rfl, q14, rfl⟩
          go_wp2_with fail
          go_ret
          exact ⟨rfl, HFIN.out _⟩

end Go.Proofs.Qxb6620837a
