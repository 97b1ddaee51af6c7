/-
  THE LAW's WALK: FnEncoderSetTableSizeScriptMatchesHistory (7).
-/
import Derived.Test.Qxb6620837aSizes
import Derived.Test.Qxb6620837aSlice
import Derived.Test.Qxb6620837aLen29
import Derived.Deep.DeepCutAuto
namespace Go.Proofs.Qxb6620837a
open Go.RowKit Win

set_option maxRecDepth 100000 in
set_option maxHeartbeats 6000000 in
theorem hist_any (h : Bool) (a1 : Option Addr) (n1 c1 : Nat) (xs1 : List ByteArray) (a2 : Option Addr) (n2 c2 : Nat) (xs2 : List ByteArray) (sz mx : Nat) (r : Bool) (low : Nat) (a7 : Option Addr) (n7 c7 : Nat) (ns : List Nat) (w : World)
    (h1 : StrIn w a1 n1 c1 xs1) (h2 : StrIn w a2 n2 c2 xs2) (h7 : U32In w a7 n7 c7 ns) (hmx : mx < 18446744073709551616) :
    Calls Try.prog 7 #[.bool h, .slice a1 n1 c1, .slice a2 n2 c2, .int .u64 (sz : Int), .int .u64 (mx : Int), .bool r, .int .u64 (low : Int), .slice a7 n7 c7] w fun e w' => e = .returned (.bool true) ∧ Below w.heap.size w w' := by
  have CB := bytes29 a1 n1 c1 (Nat.le_trans h1.cap h1.max) xs1 h1.len a2 n2 c2 (Nat.le_trans h2.cap h2.max) xs2 h2.len a7 n7 c7 (Nat.le_trans h7.cap h7.max) (.bool h) (.int .u64 (sz : Int)) (.int .u64 (mx : Int)) (.bool r) (.int .u64 (low : Int)) w h1.at_ h2.at_
  have hq := neq_nil
  go_enter Try.func7, Try.ntmps7
  go_wp2_with fail
  refine CB.mono ?_
  rintro e w0 ⟨⟨bb, rfl⟩, rfl⟩
  clear CB
  cases bb with
  | false =>
    go_wp2_with fail
    go_ret
    exact ⟨rfl, Below.refl _ _⟩
  | true =>
    by_cases p1 : n1 ≤ 65536
    rotate_left
    · go_wp2_with fail
      go_ret
      exact ⟨rfl, Below.refl _ _⟩
    by_cases p2 : n2 ≤ 65536
    rotate_left
    · go_wp2_with fail
      go_ret
      exact ⟨rfl, Below.refl _ _⟩
    by_cases p7 : n7 ≤ 65536
    rotate_left
    · go_wp2_with fail
      go_ret
      exact ⟨rfl, Below.refl _ _⟩
    go_upto_if 65 with fail
    go_cut [1] (fun s wx => ∃ a' c', s = .slice a' n1 c' ∧ StrIn wx a' n1 c' xs1 ∧ Below w0.heap.size w0 wx)
    case first =>
      cases a1 with
      | none =>
        go_wp2
        go_meet
        case rel => exact ⟨_, _, rfl, h1, Below.refl _ _⟩
      | some a =>
        obtain ⟨mc, X, hmk, HX, HS⟩ := clone_facts h1 p1
        go_wp2_with (refine wpList_copy_splice (by rfl) (.tmp 69) (.tmp 70) 33 33 (by rfl) 9 Try.underlying33 Try.size9 _ _ _ _ _ _ (by rfl) (by rfl) w0.heap.size 0 mc 9 (heap_alloc_new w0 _) X (by rw [HX.out.2.2.1]; exact (Nat.min_self n1).symm) (fun h => ⟨rfl, HS.out h⟩) (by rw [HX.out.2.2.1, HX.out.1]; omega) HX.out.2.2.2.1 w0.heap.size w0 ((Below.refl _ _).alloc (Nat.le_refl _) _) (Nat.le_refl _) ?_; intro w1 hg1 hb1)
        go_meet
        case rel => exact ⟨_, _, rfl, clone_done h1 p1 HX hg1, hb1⟩
    case rest =>
      obtain ⟨aN, cN, rfl, hN', hB0⟩ := hcut
      have hV' := h2.below hB0
      have h7' := h7.below hB0
      clear h1 h2
      clear h7
      go_upto_if 74 with fail
      go_cut [2] (fun s wx => ∃ a' c', s = .slice a' n2 c' ∧ StrIn wx a' n2 c' xs2 ∧ Below wc.heap.size wc wx)
      case first =>
        cases a2 with
        | none =>
          go_wp2
          go_meet
          case rel => exact ⟨_, _, rfl, hV', Below.refl _ _⟩
        | some a =>
          obtain ⟨mc, X, hmk, HX, HS⟩ := clone_facts hV' p2
          go_wp2_with (refine wpList_copy_splice (by rfl) (.tmp 78) (.tmp 79) 33 33 (by rfl) 9 Try.underlying33 Try.size9 _ _ _ _ _ _ (by rfl) (by rfl) wc.heap.size 0 mc 9 (heap_alloc_new wc _) X (by rw [HX.out.2.2.1]; exact (Nat.min_self n2).symm) (fun h => ⟨rfl, HS.out h⟩) (by rw [HX.out.2.2.1, HX.out.1]; omega) HX.out.2.2.2.1 wc.heap.size wc ((Below.refl _ _).alloc (Nat.le_refl _) _) (Nat.le_refl _) ?_; intro w1 hg1 hb1)
          go_meet
          case rel => exact ⟨_, _, rfl, clone_done hV' p2 HX hg1, hb1⟩
      case rest =>
        rename World => wd
        obtain ⟨aV, cV, rfl, kV, hB1⟩ := hcut
        have kN := hN'.below hB1
        have k7 := h7'.below hB1
        have HB : Hid (Below w0.heap.size w0 wd) := hB0.trans (hB1.mono hB0.size)
        clear hN' hV' hB0 hB1 hq
        clear h7'
        have mN := Nat.le_trans kN.cap kN.max
        have mV := Nat.le_trans kV.cap kV.max
        have A0 : Calls Try.prog 17 #[.int .i64 (4 * (n7 : Int)), .slice aN n1 cN] wd fun e w' => (∃ t : Nat, e = .returned (.int .i64 (t : Int)) ∧ t ≤ 4194304 ∧ (t ≤ 1048576 → t = 4 * n7 + s16 xs1)) ∧ w' = wd := adds_any aN n1 cN xs1 kN.len (4 * n7) (by omega) wd mN kN.at_
        have A1 := fun t ht => adds_any aV n2 cV xs2 kV.len t ht wd mV kV.at_
        go_wp2_with fail
        refine A0.mono ?_
        rintro e w' ⟨⟨tN, rfl, uN, vN⟩, rfl⟩
        go_wp2_with fail
        refine (A1 tN uN).mono ?_
        rintro e w' ⟨⟨tV, rfl, uV, vV⟩, rfl⟩
        clear A0 A1
        by_cases ht : tV ≤ 1048576
        rotate_left
        · clear vN vV
          go_wp2_with fail
          go_ret
          exact ⟨rfl, HB.out⟩
        have hsum : 4 * n7 + s16 xs1 + s16 xs2 ≤ 1048576 := by have e1 := vV ht; have e0 := vN (by omega); omega
        clear vN vV
        by_cases hn : n1 = n2
        rotate_left
        · have CH := holds_ne aN aV n1 n2 cN cV hn (sz : Int) (mx : Int) w'
          go_wp2_with fail
          refine CH.mono ?_
          rintro e w'' ⟨rfl, rfl⟩
          go_wp2_with fail
          go_ret
          exact ⟨rfl, HB.out⟩
        subst hn
        obtain ⟨z1, z2, z3⟩ := zip_maps xs1 xs2 (kN.len.trans kV.len.symm)
        have zw := wt_zip xs1 xs2 (kN.len.trans kV.len.symm)
        obtain ⟨fs, hfs⟩ : ∃ fs : List Fld, fs = xs1.zip xs2 := ⟨_, rfl⟩
        rw [← hfs] at z1 z2 z3 zw
        have hlen : fs.length = n1 := z3.trans kN.len
        have hwt : wt fs ≤ 1048576 := by omega
        have hwt4 : wt fs ≤ 4194304 := by omega
        have q0 : StrsAt w' aN (fs.map Prod.fst) := by rw [z1]; exact kN.at_
        have q1 : StrsAt w' aV (fs.map Prod.snd) := by rw [z2]; exact kV.at_
        have CH := holds_eq aN aV n1 cN cV fs hlen hwt4 sz mx w' mN q0 q1
        have HZ : Hid (fs.map Prod.fst = xs1 ∧ fs.map Prod.snd = xs2 ∧ wt fs = s16 xs1 + s16 xs2) := ⟨z1, z2, zw⟩
        clear z1 z2 z3 zw hfs
        by_cases hh : sz = wt fs ∧ sz ≤ mx
        rotate_left
        · rw [decide_eq_false hh] at CH
          go_wp2_with fail
          refine CH.mono ?_
          rintro e w'' ⟨rfl, q, rfl⟩
          go_wp2_with fail
          go_ret
          exact ⟨rfl, below_drewN HB.out _⟩
        rw [decide_eq_true hh] at CH
        have HH : Hid (sz = wt fs) := hh.1
        have hh2 : sz ≤ mx := hh.2
        have hwx : wt fs ≤ mx := by have := hh.1; omega
        clear hh
        go_wp2_with fail
        refine CH.mono ?_
        rintro e w'' ⟨rfl, q, rfl⟩
        have HBq : Hid (Below w0.heap.size w0 (w'.drewN q)) := below_drewN HB.out q
        have q0 := q0.drewN q
        have q1 := q1.drewN q
        have k7 : U32In (w'.drewN q) _ _ _ _ := k7.below (below_drewN (Below.refl _ _) q)
        generalize hw2 : w'.drewN q = w2 at *
        clear hw2 CH
        have CE := newenc_any h aN aV n1 cN cV fs hlen (by omega) sz mx r low w2 q0 q1
        go_wp2_with fail
        refine CE.mono ?_
        rintro e w3 ⟨eb, g, rfl, heb, hg, hT, hB3⟩
        rw [HH.out] at hT
        have HBB : Hid (Below w2.heap.size w2 w3) := hB3
        have HST : Hid (Scr w3 eb g h r low mx fs (ns.take 0)) := ⟨0, r, low, mx, IsWin.zero hwx, rfl, hwx, hT⟩
        have hn7 := k7.len
        have HK : Hid (U32In w2 a7 n7 c7 ns) := k7
        clear hT hB3 CE k7
        go_wp2_with fail
        go_loopw [21] (fun i wr => ∃ k : Nat, k ≤ n7 ∧ i = .int .i64 k ∧ Hid (Scr wr eb g h r low mx fs (ns.take k)) ∧ Hid (Below w2.heap.size w2 wr)) (fun i _ => n7 - (intOf i).toNat)
        case atStart => exact ⟨0, Nat.zero_le _, rfl, HST, HBB⟩
        case round =>
          obtain ⟨k, hk, rfl, hS, hBr⟩ := hrel
          by_cases hlt : k < n7
          · have hkn : k < ns.length := by omega
            obtain ⟨b7, o7, rfl, hc7⟩ := HK.out.at_ k hkn
            have g7 := cell_later hBr.out hc7
            have hsm := HK.out.small k hkn
            obtain ⟨j, r1, l1, m1, hj, hh, hm, hT⟩ := hS
            have hw4 : wt (fs.drop j) ≤ 4194304 := by have := wt_drop_le fs j; omega
            have CS := setsize_any eb h r1 l1 g (fs.drop j) m1 ns[k] hw4 hm hsm wr hT
            generalize hf : ns[k] = f at *
            have HF : Hid (ns[k] = f) := hf
            have HJ : Hid (IsWin fs (mm mx (ns.take k)) j ∧ hst r low mx (ns.take k) = (r1, l1, m1)) := ⟨hj, hh⟩
            clear hf hc7 hj hh hT hw4 hm
            have i1 : (0 : Int) ≤ (k : Int) := by omega
            have i2 : (k : Int) < (n7 : Int) := by omega
            as_aux_lemma =>
              go_wp2_with fail
              refine CS.mono ?_
              rintro e w4 ⟨rfl, j', hj', hT', hF'⟩
              have HR : Hid (Scr w4 eb g h r low mx fs (ns.take (k + 1)) ∧ Below w2.heap.size w2 w4) := ⟨by rw [take_succ_getD ns k hkn, HF.out]; exact Scr.step HJ.out.1 HJ.out.2 hj' hT', hBr.out.trans (hF'.below heb hg hBr.out.size)⟩
              clear hj' hT' hF' CS
              go_wp2_with fail
              go_roundw
              case rel => exact ⟨k + 1, by omega, by go_num, HR.out.1, HR.out.2⟩
              case measure => simp [intOf]; omega
          · have hke : k = n7 := by omega
            subst hke
            rw [List.take_of_length_le (by omega)] at hS
            obtain ⟨j, r1, l1, m1, hj, hh, hm, hT⟩ := hS
            have hDl : (fs.drop j).length = n1 - j := by rw [List.length_drop, hlen]
            have hjn := hj.1
            rw [hlen] at hjn
            have hDw4 : wt (fs.drop j) ≤ 4194304 := by have := wt_drop_le fs j; omega
            have C32 := encstate_any eb h r1 l1 g (fs.drop j) (wt (fs.drop j)) m1 (n1 - j) hDl (by omega) wr hT
            have HJ : Hid (IsWin fs (mm mx ns) j ∧ hst r low mx ns = (r1, l1, m1)) := ⟨hj, hh⟩
            clear hj hh hT hm HST HBB
            generalize hwD : wt (fs.drop j) = wD at *
            have HWD : Hid (wt (fs.drop j) = wD) := hwD
            clear hwD
            go_wp2_with fail
            refine C32.mono ?_
            rintro e w8 ⟨rfl, s1, s2, hB8⟩
            have BB8 : Hid (Below w2.heap.size w2 w8) := hBr.out.trans (hB8.mono hBr.out.size)
            have q0 := q0.below BB8.out
            have q1 := q1.below BB8.out
            have HK8 : Hid (U32In w8 a7 k c7 ns) := HK.out.below BB8.out
            have HS12 : Hid (StrsAt w8 (some ⟨wr.heap.size, 0, none⟩) ((fs.drop j).map Prod.fst) ∧ StrsAt w8 (some ⟨wr.heap.size + 1, 0, none⟩) ((fs.drop j).map Prod.snd)) := ⟨s1, s2⟩
            have HFIN : Hid (∀ q, Below w0.heap.size w0 (w8.drewN q)) := fun q => below_drewN (HBq.out.trans (BB8.out.mono HBq.out.size)) q
            clear hB8 C32 s1 s2 HK BB8 hBr
            as_aux_lemma =>
              go_wp2_with fail
              go_loop [32, 29, 30, 31] (fun vi vm vl vf => ∃ (i m l : Nat) (f : Int), i ≤ k ∧ vi = .int .i64 (i : Int) ∧ vm = .int .u64 (m : Int) ∧ vl = .int .u64 (l : Int) ∧ vf = .int .i64 f ∧ Hid (m = lst mx (ns.take i) ∧ l = mm mx (ns.take i) ∧ Fc mx (ns.take i) f)) (fun vi _ _ _ => k - (intOf vi).toNat)
              case atStart => exact ⟨0, mx, mx, -1, Nat.zero_le _, rfl, rfl, rfl, rfl, rfl, rfl, Fc.nil mx⟩
              case round =>
                obtain ⟨i, m, l, f, hik, rfl, rfl, rfl, rfl, HR⟩ := hrel
                by_cases hlt2 : i < k
                · have hkn : i < ns.length := by omega
                  obtain ⟨b7, o7, rfl, g7⟩ := HK8.out.at_ i hkn
                  have hsm := HK8.out.small i hkn
                  have HTS : Hid (ns.take (i + 1) = ns.take i ++ [ns[i]]) := take_succ_getD ns i hkn
                  have HTL : Hid ((ns.take i).length = i) := by show _ = _; simp; omega
                  generalize hf : ns[i] = x at *
                  clear hf
                  have CM := fun W => min_any l x W
                  have i1 : (0 : Int) ≤ (i : Int) := by omega
                  have i2 : (i : Int) < (k : Int) := by omega
                  have HL : Hid (lst mx (ns.take (i + 1)) = x ∧ mm mx (ns.take (i + 1)) = min l x) := by
                    refine ⟨?_, ?_⟩
                    · rw [HTS.out, lst_append]; rfl
                    · rw [HTS.out, mm_append, ← HR.out.2.1]; rfl
                  by_cases hf0 : f < 0
                  · by_cases hxm : x = mx
                    · have hbx : ((x : Int) != (mx : Int)) = false := by simp [hxm]
                      have HX : Hid (x = mx) := hxm
                      clear hxm
                      as_aux_lemma =>
                        go_wp2_with fail
                        refine (CM _).mono ?_
                        rintro e w9 ⟨rfl, rfl⟩
                        go_wp2_with fail
                        go_round
                        case rel => exact ⟨i + 1, x, min l x, f, by omega, by go_num, rfl, rfl, rfl, HL.out.1.symm, HL.out.2.symm, by rw [HTS.out]; exact HR.out.2.2.keep (.inr HX.out)⟩
                        case measure => simp [intOf]; omega
                    · have hbx : ((x : Int) != (mx : Int)) = true := by rw [bne_iff_ne]; omega
                      have HX : Hid (x ≠ mx) := hxm
                      clear hxm
                      as_aux_lemma =>
                        go_wp2_with fail
                        refine (CM _).mono ?_
                        rintro e w9 ⟨rfl, rfl⟩
                        go_wp2_with fail
                        go_round
                        case rel => exact ⟨i + 1, x, min l x, (i : Int), by omega, by go_num, rfl, rfl, rfl, HL.out.1.symm, HL.out.2.symm, by have h2 := HR.out.2.2.new hf0 HX.out; rw [HTL.out] at h2; rw [HTS.out]; exact h2⟩
                        case measure => simp [intOf]; omega
                  · have HF0 : Hid (0 ≤ f) := Int.not_lt.1 hf0
                    as_aux_lemma =>
                      go_wp2_with fail
                      refine (CM _).mono ?_
                      rintro e w9 ⟨rfl, rfl⟩
                      go_wp2_with fail
                      go_round
                      case rel => exact ⟨i + 1, x, min l x, f, by omega, by go_num, rfl, rfl, rfl, HL.out.1.symm, HL.out.2.symm, by rw [HTS.out]; exact HR.out.2.2.keep (.inl HF0.out)⟩
                      case measure => simp [intOf]; omega
                · have hie : i = k := by omega
                  subst hie
                  have HR2 : Hid (m = lst mx ns ∧ l = mm mx ns ∧ Fc mx ns f) := by have h2 := HR.out; rw [List.take_of_length_le (by omega)] at h2; exact h2
                  clear HR
                  have hres := HR2.out.2.2.res r low
                  rw [HJ.out.2] at hres
                  have HRES : Hid (r1 = (r || decide (0 ≤ f))) := hres
                  clear hres
                  as_aux_lemma =>
                    go_upto_region 37 with fail
                    go_cut [34] (fun s wx => s = .bool r1 ∧ w8 = wx)
                    case first =>
                      cases r with
                      | true =>
                        have e1 : Hid (r1 = true) := HRES.out
                        go_wp2_with fail
                        go_meet
                        case rel => exact ⟨by rw [e1.out], rfl⟩
                      | false =>
                        by_cases hf0 : 0 ≤ f
                        · have e1 : Hid (r1 = true) := by have h2 := HRES.out; rw [decide_eq_true hf0] at h2; exact h2
                          go_wp2_with fail
                          go_meet
                          case rel => exact ⟨by rw [e1.out], rfl⟩
                        · have e1 : Hid (r1 = false) := by have h2 := HRES.out; rw [decide_eq_false hf0] at h2; exact h2
                          go_wp2_with fail
                          go_meet
                          case rel => exact ⟨by rw [e1.out], rfl⟩
                    case rest =>
                      obtain ⟨rfl, rfl⟩ := hcut
                      as_aux_lemma =>
                        go_upto_if 160 with fail
                        go_cut [35] (fun s wx => ∃ wl : Nat, s = .int .u64 (wl : Int) ∧ Hid (wl = l1) ∧ w8 = wx)
                        case first =>
                          cases r with
                          | true =>
                            have e1 : Hid (l1 = mm low ns) := by have h2 := HJ.out.2; rw [hst_true] at h2; exact (congrArg (fun t => t.2.1) h2).symm
                            as_aux_lemma =>
                              go_wp2_with fail
                              go_loop [36, 35] (fun vi vl => ∃ (t v : Nat), t ≤ i ∧ vi = .int .i64 (t : Int) ∧ vl = .int .u64 (v : Int) ∧ Hid (v = mm low (ns.take t))) (fun vi _ => i - (intOf vi).toNat)
                              case atStart => exact ⟨0, low, Nat.zero_le _, rfl, rfl, rfl⟩
                              case round =>
                                obtain ⟨t, v, ht, rfl, rfl, HV⟩ := hrel
                                by_cases hlt3 : t < i
                                · have hkn : t < ns.length := by omega
                                  obtain ⟨b7, o7, rfl, g7⟩ := HK8.out.at_ t hkn
                                  have hsm := HK8.out.small t hkn
                                  have HTS : Hid (mm low (ns.take (t + 1)) = min v ns[t]) := by show _ = _; rw [take_succ_getD ns t hkn, mm_append, ← HV.out]; rfl
                                  generalize hf : ns[t] = x at *
                                  clear hf
                                  have CM := fun W => min_any v x W
                                  have i1 : (0 : Int) ≤ (t : Int) := by omega
                                  have i2 : (t : Int) < (i : Int) := by omega
                                  go_wp2_with fail
                                  refine (CM _).mono ?_
                                  rintro e w9 ⟨rfl, rfl⟩
                                  go_wp2_with fail
                                  go_round
                                  case rel => exact ⟨t + 1, min v x, by omega, by go_num, rfl, HTS.out.symm⟩
                                  case measure => simp [intOf]; omega
                                · have e2 : Hid (v = l1) := by have h2 := HV.out; rw [List.take_of_length_le (by omega)] at h2; exact h2.trans e1.out.symm
                                  go_wp2_with fail
                                  go_meet
                                  case rel => exact ⟨v, rfl, e2, rfl⟩
                          | false =>
                            rcases HR2.out.2.2 with ⟨rfl, hall⟩ | ⟨c, rfl, hc, hcx, hcs⟩
                            · have e1 : Hid (low = l1) := by have h2 := HJ.out.2; rw [hst_same low mx ns hall] at h2; exact congrArg (fun t => t.2.1) h2
                              clear hall
                              go_wp2_with fail
                              go_meet
                              case rel => exact ⟨low, rfl, e1, rfl⟩
                            · have e1 : Hid (l1 = mm ns[c] (ns.drop (c + 1))) := by have h2 := HJ.out.2; rw [hst_change low mx ns c hc hcx hcs] at h2; exact (congrArg (fun t => t.2.1) h2).symm
                              obtain ⟨b7, o7, rfl, g7⟩ := HK8.out.at_ c hc
                              have hsm := HK8.out.small c hc
                              have hci : c < i := by omega
                              have i1 : (0 : Int) ≤ (c : Int) := by omega
                              have i2 : (c : Int) < (i : Int) := by omega
                              generalize hf : ns[c] = x0 at *
                              clear hf hcx hcs
                              as_aux_lemma =>
                                go_wp2_with fail
                                go_loop [37, 35] (fun vi vl => ∃ (t v : Nat), c + 1 ≤ t ∧ t ≤ i ∧ vi = .int .i64 (t : Int) ∧ vl = .int .u64 (v : Int) ∧ Hid (v = mm x0 ((ns.take t).drop (c + 1)))) (fun vi _ => i - (intOf vi).toNat)
                                case atStart => exact ⟨c + 1, x0, Nat.le_refl _, by omega, by go_num, rfl, by show _ = _; rw [List.drop_eq_nil_of_le (by simp; omega)]; rfl⟩
                                case round =>
                                  obtain ⟨t, v, hct, ht, rfl, rfl, HV⟩ := hrel
                                  by_cases hlt3 : t < i
                                  · have hkn : t < ns.length := by omega
                                    obtain ⟨b8, o8, e8, g8⟩ := HK8.out.at_ t hkn
                                    obtain ⟨rfl, rfl⟩ : b8 = b7 ∧ o8 = o7 := by simpa [eq_comm] using e8
                                    have hsm2 := HK8.out.small t hkn
                                    have HTS : Hid (mm x0 ((ns.take (t + 1)).drop (c + 1)) = min v ns[t]) := by show _ = _; rw [take_succ_getD ns t hkn, List.drop_append_of_le_length (by simp; omega), mm_append, ← HV.out]; rfl
                                    generalize hf : ns[t] = x at *
                                    clear hf e8
                                    have CM := fun W => min_any v x W
                                    have i3 : (0 : Int) ≤ (t : Int) := by omega
                                    have i4 : (t : Int) < (i : Int) := by omega
                                    go_wp2_with fail
                                    refine (CM _).mono ?_
                                    rintro e w9 ⟨rfl, rfl⟩
                                    go_wp2_with fail
                                    go_round
                                    case rel => exact ⟨t + 1, min v x, by omega, by omega, by go_num, rfl, HTS.out.symm⟩
                                    case measure => simp [intOf]; omega
                                  · have e2 : Hid (v = l1) := by have h2 := HV.out; rw [List.take_of_length_le (by omega)] at h2; exact h2.trans e1.out.symm
                                    go_wp2_with fail
                                    go_meet
                                    case rel => exact ⟨v, rfl, e2, rfl⟩
                        case rest =>
                          obtain ⟨wl, rfl, HWL, rfl⟩ := hcut
                          obtain rfl := HWL.out
                          have hm1 : m1 = m := by
                            have h2 := hst_last r low mx ns
                            rw [HJ.out.2] at h2
                            exact h2.trans HR2.out.1.symm
                          have HJW : Hid (IsWin fs l j) := by
                            have h2 := HJ.out.1
                            rw [← HR2.out.2.1] at h2
                            exact h2
                          have hlim : l < 18446744073709551616 := by have h2 := mm_le mx ns; have h3 := HR2.out.2.1; omega
                          have C25 := win_any aN aV n1 cN cV fs hlen hwt4 l hlim w8 mN q0 q1
                          clear HJ HR2 HRES HWL HK8
                          subst hm1
                          as_aux_lemma =>
                            go_wp2_with fail
                            refine C25.mono ?_
                            rintro e w10 ⟨⟨i6, rfl, hi6⟩, q6, rfl⟩
                            obtain rfl := HJW.out.uniq hi6
                            clear hi6 C25
                            obtain ⟨aN', cN', sN1, sN2, tN1⟩ := slice_facts (by simpa using hlen) kN.cap q0 j hjn
                            obtain ⟨aV', cV', sV1, sV2, tV1⟩ := slice_facts (by simpa using hlen) kV.cap q1 j hjn
                            rw [← List.map_drop] at tN1 tV1
                            have hb1 : ((wD : Int) == (wD : Int)) = true := by simp
                            have hb2 : ((m1 : Int) == (m1 : Int)) = true := by simp
                            have hb3 : ((wl : Int) == (wl : Int)) = true := by simp
                            have hb5 : (h == h) = true := by simp
                            have hb6 : (r1 == r1) = true := by simp
                            have EF := end_facts _ _ _ _ (n1 - j) (n1 - j) (n1 - j) cN' cV' (fs.drop j) wD HWD.out hDl (by omega) (by rw [HWD.out]; exact hDw4) w8 HS12.out.1 HS12.out.2 tN1 tV1
                            clear q0 q1 tN1 tV1 hDl HS12 kN kV HZ hlen hjn
                            go_wp2_with fail
                            refine (EF.out.1 _).mono ?_
                            rintro e w13 ⟨rfl, q7, rfl⟩
                            go_wp2_with fail
                            refine (EF.out.2.1 _).mono ?_
                            rintro e w14 ⟨rfl, q8, rfl⟩
                            go_wp2_with fail
                            refine (EF.out.2.2 _).mono ?_
                            rintro e w15 ⟨rfl, q9, rfl⟩
                            go_wp2_with fail
                            go_ret
                            exact ⟨rfl, HFIN.out _⟩

end Go.Proofs.Qxb6620837a
