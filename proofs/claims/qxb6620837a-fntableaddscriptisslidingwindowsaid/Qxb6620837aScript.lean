/-
  THE LAW's WALK: FnTableAddScriptIsSlidingWindow (6).
-/
import Derived.Test.Qxb6620837aIn
import Derived.Test.Qxb6620837aLen28
import Derived.Test.Qxb6620837aNew
import Derived.Test.Qxb6620837aState
import Derived.Test.Qxb6620837aAdd
import Derived.Deep.DeepCutAuto
namespace Go.Proofs.Qxb6620837a
open Go.RowKit Win

/-- The table behind k adds. -/
def Adds (wr : World) (B tb : Nat) (fs add : List Fld) (mx k : Nat) : Prop :=
  ∃ g i, B ≤ g ∧ IsWin (fs ++ add.take k) mx i ∧ Tab wr tb 63 [] [] g ((fs ++ add.take k).drop i) (wt ((fs ++ add.take k).drop i)) mx

theorem Adds.step {w' wr w3 : World} {B tb : Nat} {fs add : List Fld} {mx k g i g' i' : Nat} {a b : ByteArray} (hk : k < add.length) (hab : add[k] = (a, b)) (hg : B ≤ g) (hsz : B ≤ wr.heap.size) (htb : B ≤ tb) (hi : IsWin (fs ++ add.take k) mx i)
    (hB : Below B w' wr) (hi' : IsWin ((fs ++ add.take k).drop i ++ [(a, b)]) mx i') (hg' : g' = g ∨ wr.drew.heap.size ≤ g') (hT : Tab w3 tb 63 [] [] g' (((fs ++ add.take k).drop i ++ [(a, b)]).drop i') (wt (((fs ++ add.take k).drop i ++ [(a, b)]).drop i')) mx)
    (hF : TabFr wr.drew w3 tb g) : Adds w3 B tb fs add mx (k + 1) ∧ Below B w' w3 := by
  have e : fs ++ add.take (k + 1) = (fs ++ add.take k) ++ [(a, b)] := by rw [List.take_succ_eq_append_getElem hk, hab, List.append_assoc]
  have e2 : ((fs ++ add.take k) ++ [(a, b)]).drop (i + i') = ((fs ++ add.take k).drop i ++ [(a, b)]).drop i' := by rw [← List.drop_drop, List.drop_append_of_le_length hi.1]
  refine ⟨⟨g', i + i', ?_, ?_, ?_⟩, hB.drew.trans (hF.below htb hg hsz)⟩
  · rcases hg' with h | h
    · omega
    · have h2 : wr.drew.heap.size = wr.heap.size := rfl
      omega
  · rw [e]
    exact hi.snoc hi'
  · rw [e, e2]
    exact hT

set_option maxRecDepth 100000 in
set_option maxHeartbeats 2000000 in
theorem script_any (a0 : Option Addr) (n0 c0 : Nat) (xs0 : List ByteArray) (a1 : Option Addr) (n1 c1 : Nat) (xs1 : List ByteArray) (sz mx : Nat) (a4 : Option Addr) (n4 c4 : Nat) (xs4 : List ByteArray) (a5 : Option Addr) (n5 c5 : Nat) (xs5 : List ByteArray) (w : World)
    (h0 : StrIn w a0 n0 c0 xs0) (h1 : StrIn w a1 n1 c1 xs1) (h4 : StrIn w a4 n4 c4 xs4) (h5 : StrIn w a5 n5 c5 xs5) (hmx : mx < 18446744073709551616) :
    Calls Try.prog 6 #[.slice a0 n0 c0, .slice a1 n1 c1, .int .u64 (sz : Int), .int .u64 (mx : Int), .slice a4 n4 c4, .slice a5 n5 c5] w fun e w' => e = .returned (.bool true) ∧ Below w.heap.size w w' := by
  have C28 := bytes28 a0 n0 c0 (Nat.le_trans h0.cap h0.max) xs0 h0.len a1 n1 c1 (Nat.le_trans h1.cap h1.max) xs1 h1.len a4 n4 c4 (Nat.le_trans h4.cap h4.max) xs4 h4.len a5 n5 c5 (Nat.le_trans h5.cap h5.max) xs5 h5.len (.int .u64 (sz : Int)) (.int .u64 (mx : Int)) w h0.at_ h1.at_ h4.at_ h5.at_
  have hq := neq_nil
  go_enter Try.func6, Try.ntmps6
  go_wp2_with fail
  refine C28.mono ?_
  rintro e w0 ⟨⟨bb, rfl⟩, rfl⟩
  clear C28
  cases bb with
  | false =>
    go_wp2_with fail
    go_ret
    exact ⟨rfl, Below.refl _ _⟩
  | true =>
    by_cases p0 : n0 ≤ 65536
    · by_cases p1 : n1 ≤ 65536
      · by_cases p4 : n4 ≤ 65536
        · by_cases p5 : n5 ≤ 65536
          · go_upto_if 54 with fail
            go_cut [0] (fun s0 wx => ∃ a0' c0', s0 = .slice a0' n0 c0' ∧ StrIn wx a0' n0 c0' xs0 ∧ Below w0.heap.size w0 wx)
            case first =>
              cases a0 with
              | none =>
                go_wp2
                go_meet
                case rel => exact ⟨_, _, rfl, h0, Below.refl _ _⟩
              | some a =>
                obtain ⟨mc, X, hmk, HX, HS⟩ := clone_facts h0 p0
                go_wp2_with (refine wpList_copy_splice (by rfl) (.tmp 58) (.tmp 59) 33 33 (by rfl) 9 Try.underlying33 Try.size9 _ _ _ _ _ _ (by rfl) (by rfl) w0.heap.size 0 mc 9 (heap_alloc_new w0 _) X (by rw [HX.out.2.2.1]; exact (Nat.min_self n0).symm) (fun h => ⟨rfl, HS.out h⟩) (by rw [HX.out.2.2.1, HX.out.1]; omega) HX.out.2.2.2.1 w0.heap.size w0 ((Below.refl _ _).alloc (Nat.le_refl _) _) (Nat.le_refl _) ?_; intro w1 hg1 hb1)
                go_meet
                case rel => exact ⟨_, _, rfl, clone_done h0 p0 HX hg1, hb1⟩
            case rest =>
              obtain ⟨a0', c0', rfl, h0', hB0⟩ := hcut
              have h1' := h1.below hB0
              have h4' := h4.below hB0
              have h5' := h5.below hB0
              clear h0 h1 h4 h5
              go_upto_if 63 with fail
              go_cut [1] (fun s1 wx => ∃ a1' c1', s1 = .slice a1' n1 c1' ∧ StrIn wx a1' n1 c1' xs1 ∧ Below wc.heap.size wc wx)
              case first =>
                cases a1 with
                | none =>
                  go_wp2
                  go_meet
                  case rel => exact ⟨_, _, rfl, h1', Below.refl _ _⟩
                | some a =>
                  obtain ⟨mc, X, hmk, HX, HS⟩ := clone_facts h1' p1
                  go_wp2_with (refine wpList_copy_splice (by rfl) (.tmp 67) (.tmp 68) 33 33 (by rfl) 9 Try.underlying33 Try.size9 _ _ _ _ _ _ (by rfl) (by rfl) wc.heap.size 0 mc 9 (heap_alloc_new wc _) X (by rw [HX.out.2.2.1]; exact (Nat.min_self n1).symm) (fun h => ⟨rfl, HS.out h⟩) (by rw [HX.out.2.2.1, HX.out.1]; omega) HX.out.2.2.2.1 wc.heap.size wc ((Below.refl _ _).alloc (Nat.le_refl _) _) (Nat.le_refl _) ?_; intro w1 hg1 hb1)
                  go_meet
                  case rel => exact ⟨_, _, rfl, clone_done h1' p1 HX hg1, hb1⟩
              case rest =>
                rename World => wd
                obtain ⟨a1', c1', rfl, k1, hB1⟩ := hcut
                have k0 := h0'.below hB1
                have k4 := h4'.below hB1
                have k5 := h5'.below hB1
                have HB : Hid (Below w0.heap.size w0 wd) := hB0.trans (hB1.mono hB0.size)
                clear h0' h1' h4' h5' hB0 hB1 hq
                have m0 := Nat.le_trans k0.cap k0.max
                have m1 := Nat.le_trans k1.cap k1.max
                have m4 := Nat.le_trans k4.cap k4.max
                have m5 := Nat.le_trans k5.cap k5.max
                have A0 : Calls Try.prog 17 #[.int .i64 0, .slice a0' n0 c0'] wd fun e w' => (∃ t : Nat, e = .returned (.int .i64 (t : Int)) ∧ t ≤ 4194304 ∧ (t ≤ 1048576 → t = 0 + s16 xs0)) ∧ w' = wd := adds_any a0' n0 c0' xs0 k0.len 0 (by omega) wd m0 k0.at_
                have A1 := fun t ht => adds_any a1' n1 c1' xs1 k1.len t ht wd m1 k1.at_
                have A4 := fun t ht => adds_any a4 n4 c4 xs4 k4.len t ht wd m4 k4.at_
                have A5 := fun t ht => adds_any a5 n5 c5 xs5 k5.len t ht wd m5 k5.at_
                go_wp2_with fail
                refine A0.mono ?_
                rintro e w' ⟨⟨t0, rfl, u0, v0⟩, rfl⟩
                go_wp2_with fail
                refine (A1 t0 u0).mono ?_
                rintro e w' ⟨⟨t1, rfl, u1, v1⟩, rfl⟩
                go_wp2_with fail
                refine (A4 t1 u1).mono ?_
                rintro e w' ⟨⟨t4, rfl, u4, v4⟩, rfl⟩
                go_wp2_with fail
                refine (A5 t4 u4).mono ?_
                rintro e w' ⟨⟨t5, rfl, u5, v5⟩, rfl⟩
                clear A0 A1 A4 A5
                by_cases ht : t5 ≤ 1048576
                · have hsum : s16 xs0 + s16 xs1 + s16 xs4 + s16 xs5 ≤ 1048576 := by
                    have e5 := v5 ht
                    have e4 := v4 (by omega)
                    have e1 := v1 (by omega)
                    have e0 := v0 (by omega)
                    omega
                  clear v0 v1 v4 v5
                  by_cases hn : n0 = n1
                  · subst hn
                    obtain ⟨z1, z2, z3⟩ := zip_maps xs0 xs1 (k0.len.trans k1.len.symm)
                    have zw := wt_zip xs0 xs1 (k0.len.trans k1.len.symm)
                    obtain ⟨fs, hfs⟩ : ∃ fs : List Fld, fs = xs0.zip xs1 := ⟨_, rfl⟩
                    rw [← hfs] at z1 z2 z3 zw
                    have hlen : fs.length = n0 := z3.trans k0.len
                    have hwt : wt fs ≤ 4194304 := by omega
                    have q0 : StrsAt w' a0' (fs.map Prod.fst) := by rw [z1]; exact k0.at_
                    have q1 : StrsAt w' a1' (fs.map Prod.snd) := by rw [z2]; exact k1.at_
                    have CH := holds_eq a0' a1' n0 c0' c1' fs hlen hwt sz mx w' m0 q0 q1
                    have HZ : Hid (fs.map Prod.fst = xs0 ∧ fs.map Prod.snd = xs1 ∧ wt fs = s16 xs0 + s16 xs1) := ⟨z1, z2, zw⟩
                    clear z1 z2 z3 zw hfs
                    by_cases hh : sz = wt fs ∧ sz ≤ mx
                    · rw [decide_eq_true hh] at CH
                      obtain ⟨hh1, hh2⟩ := hh
                      have HH : Hid (sz = wt fs) := hh1
                      clear hh1
                      by_cases hn4 : n4 = n5
                      · subst hn4
                        go_wp2_with fail
                        refine CH.mono ?_
                        rintro e w'' ⟨rfl, q, rfl⟩
                        have hb4 : ((n4 : Int) != (n4 : Int)) = false := by simp
                        have CN := newtab_any a0' a1' n0 c0' c1' fs hlen (by omega) sz mx (w'.drewN q) (q0.drewN q) (q1.drewN q)
                        go_wp2_with fail
                        refine CN.mono ?_
                        rintro e w2 ⟨tb, g, rfl, htb, hg, hT, hB2⟩
                        clear CN CH
                        obtain ⟨z1, z2, z3⟩ := zip_maps xs4 xs5 (k4.len.trans k5.len.symm)
                        have zw := wt_zip xs4 xs5 (k4.len.trans k5.len.symm)
                        obtain ⟨add, hadd⟩ : ∃ add : List Fld, add = xs4.zip xs5 := ⟨_, rfl⟩
                        rw [← hadd] at z1 z2 z3 zw
                        have hal : add.length = n4 := z3.trans k4.len
                        have r4 : StrsAt w' a4 (add.map Prod.fst) := by rw [z1]; exact k4.at_
                        have r5 : StrsAt w' a5 (add.map Prod.snd) := by rw [z2]; exact k5.at_
                        have HZ4 : Hid (add.map Prod.fst = xs4 ∧ add.map Prod.snd = xs5) := ⟨z1, z2⟩
                        have hall : wt fs + wt add ≤ 1048576 := by have := HZ.out.2.2; omega
                        have htb' : w'.heap.size ≤ tb := htb
                        have HST : Hid (Adds w2 w'.heap.size tb fs add mx 0) := ⟨g, 0, hg, by simpa using IsWin.zero (by rw [← HH.out]; exact hh2), by simpa [← HH.out] using hT⟩
                        have HB2 : Hid (Below w'.heap.size w' w2) := (below_drewN (Below.refl _ _) q).trans hB2
                        clear z1 z2 z3 zw hadd hT hB2 htb hg k4 k5
                        go_wp2_with fail
                        go_loopw [17] (fun i wr => ∃ k : Nat, k ≤ n4 ∧ i = .int .i64 k ∧ Hid (Adds wr w'.heap.size tb fs add mx k) ∧ Hid (Below w'.heap.size w' wr)) (fun i _ => n4 - (intOf i).toNat)
                        case atStart => exact ⟨0, Nat.zero_le _, rfl, HST, HB2⟩
                        case round =>
                          obtain ⟨k, hk, rfl, hAd, hBr⟩ := hrel
                          by_cases hlt : k < n4
                          · have hka : k < add.length := by omega
                            obtain ⟨b4, o4, rfl, s4⟩ := r4.at (by simp; omega)
                            obtain ⟨b5, o5, rfl, s5⟩ := r5.at (by simp; omega)
                            have g4 : wr.cell? ⟨b4, o4 + k, none⟩ = some (.string add[k].1) := by rw [cell_later hBr.out (s4 k (by simpa using hka))]; simp [hka]
                            have g5 : wr.cell? ⟨b5, o5 + k, none⟩ = some (.string add[k].2) := by rw [cell_later hBr.out (s5 k (by simpa using hka))]; simp [hka]
                            have hw1 := w1_le_wt add k hka
                            obtain ⟨gg, ii, hgg, hii, hTT⟩ := hAd
                            have hwS : wt ((fs ++ add.take k).drop ii) ≤ 4194304 := by
                              have e1 := wt_drop_le (fs ++ add.take k) ii
                              have e2 := wt_append fs (add.take k)
                              have e3 := wt_take_le add k
                              omega
                            generalize hab : add[k] = f at *
                            obtain ⟨a, b⟩ := f
                            have HAB : Hid (add[k] = (a, b)) := hab
                            have ha : a.size ≤ 4194304 := by simp only [w1] at hw1; omega
                            have hb : b.size ≤ 4194304 := by simp only [w1] at hw1; omega
                            have Z := zadd_any tb 63 [] [] 0 rfl gg _ mx hmx hwS a b ha hb wr.drew (hTT.same rfl rfl)
                            have HG : Hid (w'.heap.size ≤ gg ∧ IsWin (fs ++ add.take k) mx ii) := ⟨hgg, hii⟩
                            clear s4 s5 hab hTT hii hgg hw1 hwS r4 r5
                            have i1 : (0 : Int) ≤ (k : Int) := by omega
                            have i2 : (k : Int) < (n4 : Int) := by omega
                            go_wp2_with fail
                            go_region_with (first | (go_at_call 20; refine Z.mono ?_; rintro e w3 ⟨rfl, g', i', hi', hg', hT', hF'⟩))
                            all_goals
                              obtain ⟨R1, R2⟩ := Adds.step hka HAB.out HG.out.1 hBr.out.size htb' HG.out.2 hBr.out hi' hg' hT' hF'
                              have HR : Hid (Adds w3 w'.heap.size tb fs add mx (k + 1) ∧ Below w'.heap.size w' w3) := ⟨R1, R2⟩
                              clear R1 R2 hi' hg' hT' hF' Z
                              go_wp2_with fail
                              go_roundw
                              case rel => exact ⟨k + 1, by omega, by go_num, HR.out.1, HR.out.2⟩
                              case measure => simp [intOf]; omega
                          · obtain ⟨gg, ii, hgg, hii, hTT⟩ := hAd
                            rw [List.take_of_length_le (by omega)] at hii hTT
                            have HBr : Hid (Below w0.heap.size w0 wr) := HB.out.trans (hBr.out.mono HB.out.size)
                            obtain ⟨all, hall'⟩ : ∃ all : List Fld, all = fs ++ add := ⟨_, rfl⟩
                            have halln : all.map Prod.fst = xs0 ++ xs4 := by rw [hall', List.map_append, HZ.out.1, HZ4.out.1]
                            have hallv : all.map Prod.snd = xs1 ++ xs5 := by rw [hall', List.map_append, HZ.out.2.1, HZ4.out.2]
                            have hallw : wt all ≤ 4194304 := by rw [hall', wt_append]; omega
                            have halll : all.length = n0 + n4 := by rw [hall', List.length_append]; omega
                            have l4 : xs4.length = n4 := by rw [← HZ4.out.1]; simpa using hal
                            have l5 : xs5.length = n4 := by rw [← HZ4.out.2]; simpa using hal
                            rw [← hall'] at hii hTT
                            clear hall'
                            have e0 := k0.at_.below hBr.out
                            have e1 := k1.at_.below hBr.out
                            have e4 := r4.below hBr.out
                            have e5 := r5.below hBr.out
                            rw [HZ4.out.1] at e4
                            rw [HZ4.out.2] at e5
                            have d0 := k0.len
                            have d1 := k1.len
                            have hil := hii.1
                            have C21 := state_any tb 63 [] [] 0 rfl gg (all.drop ii) (wt (all.drop ii)) mx (n0 + n4 - ii) (by rw [List.length_drop, halll]) (by omega) wr hTT
                            clear r4 r5 hTT k0 k1 hBr HB2 HST
                            go_wp2_with fail
                            refine C21.mono ?_
                            rintro e w3 ⟨rfl, sN, sV, hB3⟩
                            have e0 := e0.below hB3
                            have e1 := e1.below hB3
                            have e4 := e4.below hB3
                            have e5 := e5.below hB3
                            have HB3 : Hid (Below w0.heap.size w0 w3) := HBr.out.trans (hB3.mono HBr.out.size)
                            have C22 := join_any a0' a4 n0 n4 c0' c4 xs0 xs4 d0 l4 (by omega) (by omega) w3 e0 e4
                            clear hB3 C21
                            go_wp2_with fail
                            refine C22.mono ?_
                            rintro e w4 ⟨rfl, jN, hB4, hs4⟩
                            have e1 := e1.below hB4
                            have e5 := e5.below hB4
                            have sN := sN.below hB4
                            have sV := sV.below hB4
                            have HB4 : Hid (Below w0.heap.size w0 w4) := HB3.out.trans (hB4.mono HB3.out.size)
                            have C22 := join_any a1' a5 n0 n4 c1' c5 xs1 xs5 d1 l5 (by omega) (by omega) w4 e1 e5
                            clear hB4
                            go_wp2_with fail
                            refine C22.mono ?_
                            rintro e w5 ⟨rfl, jV, hB5, hs5⟩
                            have jN := jN.below hB5
                            have sN := sN.below hB5
                            have sV := sV.below hB5
                            have HB5 : Hid (Below w0.heap.size w0 w5) := HB4.out.trans (hB5.mono HB4.out.size)
                            rw [← halln] at jN
                            rw [← hallv] at jV
                            have C25 := win_any (some ⟨w3.heap.size, 0, none⟩) (some ⟨w4.heap.size, 0, none⟩) (n0 + n4) (n0 + n4) (n0 + n4) all halll hallw mx hmx w5 (by unfold maxLen; omega) jN jV
                            clear hB5 C22 e1 e5
                            go_wp2_with fail
                            refine C25.mono ?_
                            rintro e w6 ⟨⟨i6, rfl, hi6⟩, q6, rfl⟩
                            obtain rfl := hii.uniq hi6
                            clear C25 hi6
                            have hDl : (all.drop ii).length = n0 + n4 - ii := by rw [List.length_drop, halll]
                            have hDw : wt (all.drop ii) ≤ 4194304 := by have := wt_drop_le all ii; omega
                            rw [halll] at hil
                            have hbm : ((mx : Int) == (mx : Int)) = true := by simp
                            generalize hwd : wt (all.drop ii) = wD at *
                            have hbw : ((wD : Int) == (wD : Int)) = true := by simp
                            have HWD : Hid (wt (all.drop ii) = wD) := hwd
                            clear hwd
                            by_cases hend : ii < n0 + n4
                            · have jN2 := jN.drop ii
                              have jV2 := jV.drop ii
                              rw [← List.map_drop, Nat.zero_add] at jN2 jV2
                              have EF := end_facts _ _ _ _ (n0 + n4 - ii) (n0 + n4 - ii) (n0 + n4 - ii) (n0 + n4 - ii) (n0 + n4 - ii) (all.drop ii) wD HWD.out hDl (by omega) (by rw [HWD.out]; exact hDw) w5 sN sV jN2 jV2
                              clear sN sV jN jV jN2 jV2 hii halln hallv hallw halll e0 e4 l4 l5 d0 d1 HZ HZ4 hDl
                              go_wp2_with fail
                              refine (EF.out.1 _).mono ?_
                              rintro e w7 ⟨rfl, q7, rfl⟩
                              go_wp2_with fail
                              refine (EF.out.2.1 _).mono ?_
                              rintro e w8 ⟨rfl, q8, rfl⟩
                              go_wp2_with fail
                              refine (EF.out.2.2 _).mono ?_
                              rintro e w9 ⟨rfl, q9, rfl⟩
                              go_wp2_with fail
                              go_ret
                              exact ⟨rfl, below_drewN HB5.out _⟩
                            · have hnil : all.drop ii = [] := List.eq_nil_of_length_eq_zero (by omega)
                              rw [hnil] at sN sV
                              have EF := end_facts (some ⟨wr.heap.size, 0, none⟩) (some ⟨wr.heap.size + 1, 0, none⟩) (some ⟨w3.heap.size, 0, none⟩) (some ⟨w4.heap.size, 0, none⟩) 0 0 0 0 0 [] wD (by rw [← hnil]; exact HWD.out) rfl (by omega) (by simp [wt]) w5 sN sV (fun i hi => by simp at hi) (fun i hi => by simp at hi)
                              clear sN sV jN jV hii halln hallv hallw halll e0 e4 l4 l5 d0 d1 HZ HZ4 hDl hnil
                              go_wp2_with fail
                              refine (EF.out.1 _).mono ?_
                              rintro e w7 ⟨rfl, q7, rfl⟩
                              go_wp2_with fail
                              refine (EF.out.2.1 _).mono ?_
                              rintro e w8 ⟨rfl, q8, rfl⟩
                              go_wp2_with fail
                              refine (EF.out.2.2 _).mono ?_
                              rintro e w9 ⟨rfl, q9, rfl⟩
                              go_wp2_with fail
                              go_ret
                              exact ⟨rfl, below_drewN HB5.out _⟩
                      · have hb4 : ((n4 : Int) != (n5 : Int)) = true := by rw [bne_iff_ne]; omega
                        go_wp2_with fail
                        refine CH.mono ?_
                        rintro e w'' ⟨rfl, q, rfl⟩
                        go_wp2_with fail
                        go_ret
                        exact ⟨rfl, below_drewN HB.out _⟩
                    · rw [decide_eq_false hh] at CH
                      go_wp2_with fail
                      refine CH.mono ?_
                      rintro e w'' ⟨rfl, q, rfl⟩
                      go_wp2_with fail
                      go_ret
                      exact ⟨rfl, below_drewN HB.out _⟩
                  · have CH := holds_ne a0' a1' n0 n1 c0' c1' hn (sz : Int) (mx : Int) w'
                    go_wp2_with fail
                    refine CH.mono ?_
                    rintro e w'' ⟨rfl, rfl⟩
                    go_wp2_with fail
                    go_ret
                    exact ⟨rfl, HB.out⟩
                · clear v0 v1 v4 v5
                  go_wp2_with fail
                  go_ret
                  exact ⟨rfl, HB.out⟩
          · go_wp2_with fail
            go_ret
            exact ⟨rfl, Below.refl _ _⟩
        · go_wp2_with fail
          go_ret
          exact ⟨rfl, Below.refl _ _⟩
      · go_wp2_with fail
        go_ret
        exact ⟨rfl, Below.refl _ _⟩
    · go_wp2_with fail
      go_ret
      exact ⟨rfl, Below.refl _ _⟩

end Go.Proofs.Qxb6620837a
