/-
  THE WALKS: ZZNewEncoder (30), SetTableSize (31), ZZEncoderState (32).
-/
import Derived.Test.Qxb6620837aNew
import Derived.Test.Qxb6620837aState
import Derived.Test.Qxb6620837aEvict
namespace Go.Proofs.Qxb6620837a
open Go.RowKit Win

theorem Tab.same' {w w' : World} {tb : Nat} {ty : TypeId} {pre post : List Value} {g : Nat} {fs : List Fld} {sz mx : Nat} (h : Tab w tb ty pre post g fs sz mx) (h1 : w'.heap[tb]? = w.heap[tb]?) (h2 : w'.heap[g]? = w.heap[g]?) : Tab w' tb ty pre post g fs sz mx := by
  obtain ⟨k, cap, A, B, a1, a2, r⟩ := h.at_
  exact ⟨k, cap, A, B, a1.same h1, a2.same h2, r⟩

theorem Tab.lt' {w : World} {tb : Nat} {ty : TypeId} {pre post : List Value} {g : Nat} {fs : List Fld} {sz mx : Nat} (h : Tab w tb ty pre post g fs sz mx) : tb < w.heap.size ∧ g < w.heap.size := by
  obtain ⟨k, cap, A, B, a1, a2, r⟩ := h.at_
  exact ⟨a1.lt, a2.lt⟩

theorem Tab.below' {w w' : World} {tb : Nat} {ty : TypeId} {pre post : List Value} {g : Nat} {fs : List Fld} {sz mx : Nat} (h : Tab w tb ty pre post g fs sz mx) (hb : Below w.heap.size w w') : Tab w' tb ty pre post g fs sz mx :=
  h.same' (hb.block _ h.lt'.1) (hb.block _ h.lt'.2)

/-- ZZNewEncoder, both slices of one length -/
theorem newenc_any (h : Bool) (ao bo : Option Addr) (n ca cb : Nat) (fs : List Fld) (hx : fs.length = n) (hn : n ≤ 1048576) (sz mx : Nat) (r : Bool) (low : Nat) (w : World)
    (h1 : StrsAt w ao (fs.map Prod.fst)) (h2 : StrsAt w bo (fs.map Prod.snd)) :
    Calls Try.prog 30 #[.bool h, .slice ao n ca, .slice bo n cb, .int .u64 (sz : Int), .int .u64 (mx : Int), .bool r, .int .u64 (low : Int)] w fun e w' => ∃ eb g, e = .returned (.pointer (some ⟨eb, 0, none⟩)) ∧ w.heap.size ≤ eb ∧ w.heap.size ≤ g ∧ Tab w' eb 67 [.bool h] [.bool r, .int .u64 (low : Int)] g fs sz mx ∧ Below w.heap.size w w' := by
  have C := newtab_any ao bo n ca cb fs hx hn sz mx w h1 h2
  clear h1 h2
  go_enter Try.func30, Try.ntmps30
  go_wp2_with fail
  refine C.mono ?_
  rintro e w2 ⟨tb, g, rfl, htb, hg, hT, hB⟩
  obtain ⟨k, cap, A, B, hb1, hb2, hne, hA, hcap, hB', hcm⟩ := hT.at_
  have c0 : w2.cell? ⟨tb, 0, none⟩ = some (.slice (some ⟨g, 2 * k, none⟩) fs.length cap) := by rw [hb1.cell]; rfl
  have c1 : w2.cell? ⟨tb, 1, none⟩ = some (.int .u64 (sz : Int)) := by rw [hb1.cell]; rfl
  have c2 : w2.cell? ⟨tb, 2, none⟩ = some (.int .u64 (mx : Int)) := by rw [hb1.cell]; rfl
  have HB2 : Hid (Blk w2 g (A ++ (flat fs ++ B)) 41) := hb2
  have HH : Hid (Below w.heap.size w w2) := hB
  clear hb1 hb2 hT C hB
  go_wp2_with fail
  go_ret
  have hsz := HH.out.size
  have hgl := HB2.out.lt
  refine ⟨w2.heap.size, g, rfl, hsz, hg, ⟨k, cap, A, B, ?_, HB2.out.alloc _, by omega, hA, hcap, hB', hcm⟩, HH.out.alloc hsz _⟩
  rw [hx]
  exact Blk.new w2 [.bool h, .slice (some ⟨g, 2 * k, none⟩) n cap, .int .u64 (sz : Int), .int .u64 (mx : Int), .bool r, .int .u64 (low : Int)] 67

/-- What SetTableSize makes of 'resized' and of 'lowest'. -/
def nextR (r : Bool) (mx n : Nat) : Bool := r || decide (n ≠ mx)
def nextL (r : Bool) (low mx n : Nat) : Nat := if r then min low n else if n = mx then low else n

set_option maxHeartbeats 1000000 in
/-- SetTableSize -/
theorem setsize_any (eb : Nat) (h : Bool) (r : Bool) (low : Nat) (g : Nat) (fs : List Fld) (mx n : Nat) (hw : wt fs ≤ 4194304) (hmx : wt fs ≤ mx) (hn : n ≤ 4294967295) (w : World) (hT : Tab w eb 67 [.bool h] [.bool r, .int .u64 (low : Int)] g fs (wt fs) mx) :
    Calls Try.prog 31 #[.pointer (some ⟨eb, 0, none⟩), .int .u32 (n : Int)] w fun e w' => e = .returned (.tuple #[]) ∧ ∃ j, IsWin fs n j ∧ Tab w' eb 67 [.bool h] [.bool (nextR r mx n), .int .u64 ((nextL r low mx n : Nat) : Int)] g (fs.drop j) (wt (fs.drop j)) n ∧ TabFr w w' eb g := by
  obtain ⟨k, cap, A, B, hb1, hb2, hne, hA, hcap, hB, hcm⟩ := hT.at_
  have c3 : w.cell? ⟨eb, 3, none⟩ = some (.int .u64 (mx : Int)) := by rw [hb1.cell]; rfl
  have c4 : w.cell? ⟨eb, 4, none⟩ = some (.bool r) := by rw [hb1.cell]; rfl
  have c5 : w.cell? ⟨eb, 5, none⟩ = some (.int .u64 (low : Int)) := by rw [hb1.cell]; rfl
  have f4 : w.frozen? ⟨eb, 4, none⟩ = false := hb1.free _
  have f5 : w.frozen? ⟨eb, 5, none⟩ = false := hb1.free _
  cases r with
  | false =>
    by_cases he : n = mx
    · subst he
      have hbe : ((n : Int) == (n : Int)) = true := by simp
      have HT : Hid (Tab w eb 67 [.bool h] [.bool false, .int .u64 (low : Int)] g fs (wt fs) n) := hT
      clear hT hb1 hb2
      go_enter Try.func31, Try.ntmps31
      go_wp2
      refine bodyPost_ret (results_none rfl _ _ _) rfl ?_
      refine ⟨rfl, 0, IsWin.zero hmx, ?_, TabFr.refl _ _ _⟩
      have e1 : nextR false n n = false := by simp [nextR]
      have e2 : nextL false low n n = low := by simp [nextL]
      rw [e1, e2]
      exact HT.out
    · have hbe : ((n : Int) == (mx : Int)) = false := by rw [beq_eq_false_iff_ne]; omega
      have e1 : nextR false mx n = true := by simp [nextR, he]
      have e2 : nextL false low mx n = n := by simp [nextL, he]
      have hT2 : Tab (((w.setCell ⟨eb, 4, none⟩ (.bool true)).setCell ⟨eb, 5, none⟩ (.int .u64 (n : Int))).setCell ⟨eb, 5, none⟩ (.int .u64 (n : Int))) eb 67 [.bool h] [.bool true, .int .u64 (n : Int)] g fs (wt fs) mx := by
        refine ⟨k, cap, A, B, ?_, ((hb2.set_other _ _ (Ne.symm hne)).set_other _ _ (Ne.symm hne)).set_other _ _ (Ne.symm hne), hne, hA, hcap, hB, hcm⟩
        exact ((hb1.set 4 (.bool true)).set 5 (.int .u64 (n : Int))).set 5 (.int .u64 (n : Int))
      have HF : Hid (TabFr w (((w.setCell ⟨eb, 4, none⟩ (.bool true)).setCell ⟨eb, 5, none⟩ (.int .u64 (n : Int))).setCell ⟨eb, 5, none⟩ (.int .u64 (n : Int))) eb g) := (((TabFr.refl w eb g).setCell _ _ (.inl rfl)).setCell _ _ (.inl rfl)).setCell _ _ (.inl rfl)
      have C := setMax_any eb 67 [.bool h] [.bool true, .int .u64 (n : Int)] 1 rfl g fs mx n hw _ hT2
      rw [e1, e2]
      clear hT hT2 hb1 hb2 e1 e2
      go_enter Try.func31, Try.ntmps31
      go_wp2_with fail
      refine C.mono ?_
      rintro e w' ⟨rfl, j, hj, hT', hF'⟩
      clear C
      go_wp2
      go_end0
      exact ⟨rfl, j, hj, hT', HF.out.trans hF'⟩
  | true =>
    have e1 : nextR true mx n = true := by simp [nextR]
    rw [e1]
    clear e1
    by_cases hml : n < low
    · have e2 : nextL true low mx n = n := by simp [nextL]; omega
      have hT2 : Tab (w.setCell ⟨eb, 5, none⟩ (.int .u64 (n : Int))) eb 67 [.bool h] [.bool true, .int .u64 (n : Int)] g fs (wt fs) mx := by
        refine ⟨k, cap, A, B, ?_, hb2.set_other _ _ (Ne.symm hne), hne, hA, hcap, hB, hcm⟩
        exact hb1.set 5 (.int .u64 (n : Int))
      have HF : Hid (TabFr w (w.setCell ⟨eb, 5, none⟩ (.int .u64 (n : Int))) eb g) := (TabFr.refl w eb g).setCell _ _ (.inl rfl)
      have C := setMax_any eb 67 [.bool h] [.bool true, .int .u64 (n : Int)] 1 rfl g fs mx n hw _ hT2
      rw [e2]
      clear hT hT2 hb1 hb2 e2
      go_enter Try.func31, Try.ntmps31
      go_wp2_with fail
      refine C.mono ?_
      rintro e w' ⟨rfl, j, hj, hT', hF'⟩
      clear C
      go_wp2
      go_end0
      exact ⟨rfl, j, hj, hT', HF.out.trans hF'⟩
    · have e2 : nextL true low mx n = low := by simp [nextL]; omega
      have hT2 : Tab (w.setCell ⟨eb, 5, none⟩ (.int .u64 (low : Int))) eb 67 [.bool h] [.bool true, .int .u64 (low : Int)] g fs (wt fs) mx := by
        refine ⟨k, cap, A, B, ?_, hb2.set_other _ _ (Ne.symm hne), hne, hA, hcap, hB, hcm⟩
        exact hb1.set 5 (.int .u64 (low : Int))
      have HF : Hid (TabFr w (w.setCell ⟨eb, 5, none⟩ (.int .u64 (low : Int))) eb g) := (TabFr.refl w eb g).setCell _ _ (.inl rfl)
      have C := setMax_any eb 67 [.bool h] [.bool true, .int .u64 (low : Int)] 1 rfl g fs mx n hw _ hT2
      rw [e2]
      clear hT hT2 hb1 hb2 e2
      go_enter Try.func31, Try.ntmps31
      go_wp2_with fail
      refine C.mono ?_
      rintro e w' ⟨rfl, j, hj, hT', hF'⟩
      clear C
      go_wp2
      go_end0
      exact ⟨rfl, j, hj, hT', HF.out.trans hF'⟩

theorem results_tmp7 {fn : Func} {a b c d e f g : Tmp} (h : fn.results = #[.tmp a, .tmp b, .tmp c, .tmp d, .tmp e, .tmp f, .tmp g]) (tmps : Array Value) (P : Program) (w : World) :
    (results fn tmps).run P w = .ok (.tuple #[tmps.getD a undef, tmps.getD b undef, tmps.getD c undef, tmps.getD d undef, tmps.getD e undef, tmps.getD f undef, tmps.getD g undef]) w := by
  simp [results, h]

set_option maxHeartbeats 1000000 in
/-- ZZEncoderState -/
theorem encstate_any (eb : Nat) (h r : Bool) (low : Nat) (g : Nat) (fs : List Fld) (sz mx n : Nat) (hx : fs.length = n) (hn : n ≤ 1048576) (w : World) (hT : Tab w eb 67 [.bool h] [.bool r, .int .u64 (low : Int)] g fs sz mx) :
    Calls Try.prog 32 #[.pointer (some ⟨eb, 0, none⟩)] w fun e w' => e = .returned (.tuple #[.bool h, .slice (some ⟨w.heap.size, 0, none⟩) n n, .slice (some ⟨w.heap.size + 1, 0, none⟩) n n, .int .u64 (sz : Int), .int .u64 (mx : Int), .bool r, .int .u64 (low : Int)]) ∧
      StrsAt w' (some ⟨w.heap.size, 0, none⟩) (fs.map Prod.fst) ∧ StrsAt w' (some ⟨w.heap.size + 1, 0, none⟩) (fs.map Prod.snd) ∧ Below w.heap.size w w' := by
  have C := state_any eb 67 [.bool h] [.bool r, .int .u64 (low : Int)] 1 rfl g fs sz mx n hx hn w hT
  obtain ⟨k, cap, A, B, hb1, hb2, hne, hA, hcap, hB, hcm⟩ := hT.at_
  have c0 : w.cell? ⟨eb, 0, none⟩ = some (.bool h) := by rw [hb1.cell]; rfl
  have c4 : w.cell? ⟨eb, 4, none⟩ = some (.bool r) := by rw [hb1.cell]; rfl
  have c5 : w.cell? ⟨eb, 5, none⟩ = some (.int .u64 (low : Int)) := by rw [hb1.cell]; rfl
  clear hT hb1 hb2
  go_enter Try.func32, Try.ntmps32
  go_wp2_with fail
  refine C.mono ?_
  rintro e w2 ⟨rfl, s1, s2, hB2⟩
  have c0 := cell_later hB2 c0
  have c4 := cell_later hB2 c4
  have c5 := cell_later hB2 c5
  clear C
  go_wp2_with fail
  go_quiet (fail)
  go_wp2
  refine bodyPost_ret (results_tmp7 rfl _ _ _) rfl ?_
  exact ⟨rfl, s1.drewN _, s2.drewN _, below_drewN hB2 _⟩

end Go.Proofs.Qxb6620837a
