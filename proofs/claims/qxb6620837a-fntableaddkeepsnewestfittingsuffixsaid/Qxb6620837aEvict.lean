/-
  THE WALK: (*table).evict (40).
-/
import Derived.Test.Qxb6620837aTab
import Derived.Deep.LoopGhost
import Derived.Deep.RegionWith
import Derived.Deep.DrawnRows
namespace Go.Proofs.Qxb6620837a
open Go.RowKit Win
attribute [local go_sem] Go.wp_at_zero Go.wp_at_succ

theorem set_at {α : Type} (pre : List α) (x y : α) (r : List α) (n : Nat) (h : pre.length = n) : (pre ++ x :: r).set n y = pre ++ y :: r := by
  subst h; simp

theorem set_at1 {α : Type} (pre : List α) (z x y : α) (r : List α) (n : Nat) (h : pre.length = n) : (pre ++ z :: x :: r).set (n + 1) y = pre ++ z :: y :: r := by
  have := set_at (pre ++ [z]) x y r (n + 1) (by simp [h])
  simpa using this

/-- What one round of evict does to the two blocks. -/
theorem evict_blocks {w wr : World} {tb g to k : Nat} {ty : TypeId} {pre post A C : List Value} {sl sl' s s' m x y e : Value} (hto : pre.length = to) (hA : A.length = 2 * k) (hne : tb ≠ g)
    (h1 : Blk wr tb (pre ++ (sl :: s :: m :: post)) ty) (h2 : Blk wr g (A ++ (x :: y :: C)) 41) (hF : TabFr w wr tb g) (O : Obj) :
    Blk (((((wr.alloc O).setCell ⟨tb, to + 1, none⟩ s').setCell ⟨g, 2 * k, none⟩ e).setCell ⟨g, 2 * k + 1, none⟩ e).setCell ⟨tb, to, none⟩ sl').drew tb (pre ++ (sl' :: s' :: m :: post)) ty ∧
    Blk (((((wr.alloc O).setCell ⟨tb, to + 1, none⟩ s').setCell ⟨g, 2 * k, none⟩ e).setCell ⟨g, 2 * k + 1, none⟩ e).setCell ⟨tb, to, none⟩ sl').drew g (A ++ (e :: e :: C)) 41 ∧
    TabFr w (((((wr.alloc O).setCell ⟨tb, to + 1, none⟩ s').setCell ⟨g, 2 * k, none⟩ e).setCell ⟨g, 2 * k + 1, none⟩ e).setCell ⟨tb, to, none⟩ sl').drew tb g := by
  refine ⟨?_, ?_, ?_⟩
  · have a1 := (h1.alloc O).set (to + 1) s'
    rw [set_at1 _ _ _ _ _ _ hto] at a1
    have a2 := ((a1.set_other ⟨g, 2 * k, none⟩ e hne).set_other ⟨g, 2 * k + 1, none⟩ e hne).set to sl'
    rw [set_at _ _ _ _ _ hto] at a2
    exact a2.drew
  · have a1 := ((h2.alloc O).set_other ⟨tb, to + 1, none⟩ s' (Ne.symm hne)).set (2 * k) e
    rw [set_at _ _ _ _ _ hA] at a1
    have a2 := a1.set (2 * k + 1) e
    rw [set_at1 _ _ _ _ _ _ hA] at a2
    exact (a2.set_other ⟨tb, to, none⟩ sl' (Ne.symm hne)).drew
  · exact (((((hF.alloc O).setCell ⟨tb, to + 1, none⟩ s' (.inl rfl)).setCell ⟨g, 2 * k, none⟩ e (.inr rfl)).setCell ⟨g, 2 * k + 1, none⟩ e (.inr rfl)).setCell ⟨tb, to, none⟩ sl' (.inl rfl)).drew

set_option maxHeartbeats 1000000 in
theorem evict_any (tb : Nat) (ty : TypeId) (pre post : List Value) (to : Nat) (hto : pre.length = to) (g : Nat) (fs : List Fld) (mx n : Nat) (hw : wt fs ≤ 4194304) (w : World) (hT : Tab w tb ty pre post g fs (wt fs) mx) :
    Calls Try.prog 40 #[.pointer (some ⟨tb, to, none⟩), .int .u64 (n : Int)] w fun e w' => e = .returned (.tuple #[]) ∧ ∃ j, IsWin fs n j ∧ Tab w' tb ty pre post g (fs.drop j) (wt (fs.drop j)) mx ∧ TabFr w w' tb g := by
  go_enter Try.func40, Try.ntmps40
  go_wp2
  go_loopg [] fs.length (fun k wr => Hid (∃ j, j ≤ fs.length ∧ k = fs.length - j ∧ Tab wr tb ty pre post g (fs.drop j) (wt (fs.drop j)) mx ∧ TabFr w wr tb g ∧ (0 < j → n < wt (fs.drop (j - 1)))))
  case atStart => exact ⟨0, Nat.zero_le _, by omega, by simpa using hT, TabFr.refl _ _ _, fun h => by omega⟩
  case round =>
    obtain ⟨j, hj, hgk, hTr, hFr, hlow⟩ := hrel
    have HL : Hid (0 < j → n < wt (fs.drop (j - 1))) := hlow
    have HG : Hid (gk = fs.length - j) := hgk
    have HF : Hid (TabFr w wr tb g) := hFr
    clear hlow hgk hFr hT
    have hwj := wt_drop_le fs j
    have HT : Hid (Tab wr tb ty pre post g (fs.drop j) (wt (fs.drop j)) mx) := hTr
    obtain ⟨k, cap, A, B, hb1, hb2, hne, hA, hcap, hB, hcm⟩ := hTr.at_
    have c0 : wr.cell? ⟨tb, to, none⟩ = some (.slice (some ⟨g, 2 * k, none⟩) (fs.drop j).length cap) := by rw [hb1.cell, ← hto]; simp
    have c1 : wr.cell? ⟨tb, to + 1, none⟩ = some (.int .u64 ((wt (fs.drop j) : Nat) : Int)) := by rw [hb1.cell, ← hto]; simp
    by_cases hle : wt (fs.drop j) ≤ n
    · clear hb1 hb2 hA hB hcap hcm hTr
      generalize hsw : wt (fs.drop j) = sz at *
      have HSW : Hid (wt (fs.drop j) = sz) := hsw
      clear hsw
      go_wp2
      go_end0
      rw [← HSW.out] at HT hle
      exact ⟨rfl, j, ⟨hj, hle, HL.out⟩, HT.out, HF.out⟩
    · have hjl : j < fs.length := by
        apply Nat.lt_of_not_le
        intro h
        rw [List.drop_eq_nil_of_le h] at hle
        simp [wt] at hle
      have hlj : (fs.drop j).length = fs.length - j := by simp
      have hdr : fs.drop j = fs[j] :: fs.drop (j + 1) := List.drop_eq_getElem_cons hjl
      have hsu := wt_drop_succ fs j hjl
      have hsz : wt (fs.drop j) ≤ 4194304 := by omega
      have HS : Hid (wt (fs.drop j) = w1 fs[j] + wt (fs.drop (j + 1))) := hsu
      have hx : w1 fs[j] ≤ wt (fs.drop j) := by omega
      have d0 : wr.cell? ⟨g, 2 * k, none⟩ = some (.string fs[j].1) := by rw [hb2.cell, ← hA, hdr]; simp [flat]
      have d1 : wr.cell? ⟨g, 2 * k + 1, none⟩ = some (.string fs[j].2) := by rw [hb2.cell, ← hA, hdr]; simp [flat]
      generalize hf : fs[j] = f at *
      obtain ⟨a, b⟩ := f
      have ha : a.size ≤ 4194304 := by simp only [w1] at hx; omega
      have hb : b.size ≤ 4194304 := by simp only [w1] at hx; omega
      have C := fun w => size_any a b ha hb w
      have hlen : 1 ≤ (fs.drop j).length := by omega
      have hn : n < wt (fs.drop j) := by omega
      clear hsu hle ha hb hlj
      have Bel := fun o => (Below.refl wr.heap.size wr).alloc (Nat.le_refl _) o
      have e0 : ∀ o, (wr.alloc o).cell? ⟨tb, to, none⟩ = some (.slice (some ⟨g, 2 * k, none⟩) (fs.drop j).length cap) := fun o => cell_later (Bel o) c0
      have e1 : ∀ o, (wr.alloc o).cell? ⟨tb, to + 1, none⟩ = some (.int .u64 ((wt (fs.drop j) : Nat) : Int)) := fun o => cell_later (Bel o) c1
      have e2 : ∀ o, (wr.alloc o).cell? ⟨g, 2 * k, none⟩ = some (.string a) := fun o => cell_later (Bel o) d0
      have e3 : ∀ o, (wr.alloc o).cell? ⟨g, 2 * k + 1, none⟩ = some (.string b) := fun o => cell_later (Bel o) d1
      have f0 : ∀ o, (wr.alloc o).frozen? ⟨tb, to, none⟩ = false := fun o => (hb1.alloc o).free _
      have f1 : ∀ o, (wr.alloc o).frozen? ⟨tb, to + 1, none⟩ = false := fun o => (hb1.alloc o).free _
      have f2 : ∀ o, (wr.alloc o).frozen? ⟨g, 2 * k, none⟩ = false := fun o => (hb2.alloc o).free _
      have f3 : ∀ o, (wr.alloc o).frozen? ⟨g, 2 * k + 1, none⟩ = false := fun o => (hb2.alloc o).free _
      have HB1 : Hid (Blk wr tb (pre ++ (.slice (some ⟨g, 2 * k, none⟩) (fs.drop j).length cap :: .int .u64 ((wt (fs.drop j) : Nat) : Int) :: .int .u64 mx :: post)) ty) := hb1
      have HB2 : Hid (Blk wr g (A ++ (flat (fs.drop j) ++ B)) 41) := hb2
      have HDR : Hid (fs.drop j = (a, b) :: fs.drop (j + 1)) := hdr
      have HA : Hid (A.length = 2 * k) := hA
      have HBl : Hid (2 * (cap - (fs.drop j).length) ≤ B.length) := hB
      clear hb1 hb2 hdr hA hB Bel hTr hf
      generalize hl : (fs.drop j).length = len at *
      generalize hsw : wt (fs.drop j) = sz at *
      have HSW : Hid (wt (fs.drop j) = sz ∧ (fs.drop j).length = len) := ⟨hsw, hl⟩
      clear hsw hl
      generalize hxx : w1 (a, b) = x at *
      have HXX : Hid (w1 (a, b) = x) := hxx
      clear hxx
      have hl' : (0 : Int) < (len : Int) := by omega
      have hlz : 0 < len := by omega
      have n0 : wr.heap.size ≠ tb := by have := block_lt_of_cell c0; simp at this; omega
      have n1 : wr.heap.size ≠ g := by have := block_lt_of_cell d0; simp at this; omega
      have x1 : IntKind.u64.wrap (x : Int) = (x : Int) := by rw [IntKind.wrap_u64]; omega
      have x2 : IntKind.u64.wrap ((sz : Int) - (x : Int)) = ((sz - x : Nat) : Int) := by rw [IntKind.wrap_u64]; omega
      by_cases hc1 : cap ≤ 1
      · go_wp2
        go_region_with (first | (go_at_call 39; refine (C _).mono ?_; rintro e w' ⟨rfl, rfl⟩))
        all_goals go_wp2
        all_goals
          go_roundg (fs.length - (j + 1))
          case measure => have := HG.out; omega
          case rel =>
            have hb1 := HB1.out
            have hb2 := HB2.out
            have hlen1 := HSW.out.2
            have hlz' : fs.drop (j + 1) = [] := by
              have h := congrArg List.length HDR.out
              rw [hlen1] at h
              apply List.eq_nil_of_length_eq_zero
              simp only [List.length_cons] at h
              omega
            rw [HDR.out, hlz'] at hb2
            obtain ⟨q1, q2, q3⟩ := evict_blocks (sl' := .slice (some ⟨g, 2 * k, none⟩) (len - 1) 0) (s' := .int .u64 ((sz - x : Nat) : Int)) (e := .string ⟨#[]⟩) hto HA.out hne hb1 hb2 HF.out (.cells #[.string a, .string b] 41)
            refine ⟨j + 1, by omega, rfl, ⟨k, 0, A, .string ⟨#[]⟩ :: .string ⟨#[]⟩ :: B, ?_, ?_, hne, HA.out, by rw [hlz']; simp, by simp, by omega⟩, q3, fun _ => ?_⟩
            · have e1 : (fs.drop (j + 1)).length = len - 1 := by rw [hlz']; simp; omega
              have e2 : wt (fs.drop (j + 1)) = sz - x := by have := HS.out; omega
              rw [e1, e2]
              exact q1
            · rw [hlz']
              exact q2
            · rw [Nat.add_sub_cancel, HSW.out.1]
              exact hn
      · have hc2 : ¬ cap = 1 := by omega
        go_wp2
        go_region_with (first | (go_at_call 39; refine (C _).mono ?_; rintro e w' ⟨rfl, rfl⟩))
        all_goals go_wp2
        all_goals
          go_roundg (fs.length - (j + 1))
          case measure => have := HG.out; omega
          case rel =>
            have hb1 := HB1.out
            have hb2 := HB2.out
            have hlen1 := HSW.out.2
            have e1 : (fs.drop (j + 1)).length = len - 1 := by
              have h := congrArg List.length HDR.out
              rw [hlen1, List.length_cons] at h
              omega
            have e2 : wt (fs.drop (j + 1)) = sz - x := by have := HS.out; omega
            rw [HDR.out] at hb2
            obtain ⟨q1, q2, q3⟩ := evict_blocks (sl' := .slice (some ⟨g, 2 * k + 2, none⟩) (len - 1) (cap - 1)) (s' := .int .u64 ((sz - x : Nat) : Int)) (e := .string ⟨#[]⟩) hto HA.out hne hb1 hb2 HF.out (.cells #[.string a, .string b] 41)
            refine ⟨j + 1, by omega, rfl, ⟨k + 1, cap - 1, A ++ [.string ⟨#[]⟩, .string ⟨#[]⟩], B, ?_, ?_, hne, ?_, by rw [e1]; omega, ?_, by omega⟩, q3, fun _ => ?_⟩
            · rw [e1, e2]
              exact q1
            · rw [List.append_assoc]
              exact q2
            · have := HA.out
              simp
              omega
            · have := HBl.out
              rw [e1]
              omega
            · rw [Nat.add_sub_cancel, HSW.out.1]
              exact hn

/-- (*table).setMaxSize -/
theorem setMax_any (tb : Nat) (ty : TypeId) (pre post : List Value) (to : Nat) (hto : pre.length = to) (g : Nat) (fs : List Fld) (mx n : Nat) (hw : wt fs ≤ 4194304) (w : World) (hT : Tab w tb ty pre post g fs (wt fs) mx) :
    Calls Try.prog 38 #[.pointer (some ⟨tb, to, none⟩), .int .u64 (n : Int)] w fun e w' => e = .returned (.tuple #[]) ∧ ∃ j, IsWin fs n j ∧ Tab w' tb ty pre post g (fs.drop j) (wt (fs.drop j)) n ∧ TabFr w w' tb g := by
  obtain ⟨k, cap, A, B, hb1, hb2, hne, hA, hcap, hB, hcm⟩ := hT.at_
  have c2 : w.cell? ⟨tb, to + 2, none⟩ = some (.int .u64 (mx : Int)) := by rw [hb1.cell, ← hto]; simp
  have f2 : w.frozen? ⟨tb, to + 2, none⟩ = false := hb1.free _
  have hT2 : Tab (w.setCell ⟨tb, to + 2, none⟩ (.int .u64 (n : Int))) tb ty pre post g fs (wt fs) n := by
    refine ⟨k, cap, A, B, ?_, hb2.set_other _ _ (Ne.symm hne), hne, hA, hcap, hB, hcm⟩
    have a1 := hb1.set (to + 2) (.int .u64 (n : Int))
    have e := set_at1 (pre ++ [.slice (some ⟨g, 2 * k, none⟩) fs.length cap]) (.int .u64 ((wt fs : Nat) : Int)) (.int .u64 (mx : Int)) (.int .u64 (n : Int)) post (to + 1) (by simp [hto])
    simp only [List.append_assoc, List.cons_append, List.nil_append] at e
    rw [e] at a1
    exact a1
  have C := evict_any tb ty pre post to hto g fs n n hw _ hT2
  have HF : Hid (TabFr w (w.setCell ⟨tb, to + 2, none⟩ (.int .u64 (n : Int))) tb g) := (TabFr.refl w tb g).setCell _ _ (.inl rfl)
  clear hT hT2 hb1 hb2 hA hB hcap hcm
  go_enter Try.func38, Try.ntmps38
  go_wp2_with (go_at_call 40; refine C.mono ?_; rintro e w' ⟨rfl, j, hj, hT', hF'⟩)
  go_end0
  exact ⟨rfl, j, hj, hT', HF.out.trans hF'⟩

end Go.Proofs.Qxb6620837a
