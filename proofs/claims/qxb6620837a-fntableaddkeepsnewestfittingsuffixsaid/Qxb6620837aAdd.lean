/-
  THE WALK: (*table).add (37).
-/
import Derived.Test.Qxb6620837aEvict
import Derived.Deep.RegionLawGrows
import Derived.Deep.DrawnRows
namespace Go.Proofs.Qxb6620837a
open Go.RowKit Win
attribute [local go_sem] Go.wp_at_zero Go.wp_at_succ

theorem Try.info41a : (Try.prog.info? 41).map (fun i => (i.zero, i.size, i.bytes)) = some (some (.agg #[.string ⟨#[]⟩, .string ⟨#[]⟩]), 2, 32) := by kernel_rfl

theorem Tab.same {w w' : World} {tb : Nat} {ty : TypeId} {pre post : List Value} {g : Nat} {fs : List Fld} {sz mx : Nat} (h : Tab w tb ty pre post g fs sz mx) (h1 : w'.heap[tb]? = w.heap[tb]?) (h2 : w'.heap[g]? = w.heap[g]?) : Tab w' tb ty pre post g fs sz mx := by
  obtain ⟨k, cap, A, B, a1, a2, r⟩ := h.at_
  exact ⟨k, cap, A, B, a1.same h1, a2.same h2, r⟩

theorem Tab.lt {w : World} {tb : Nat} {ty : TypeId} {pre post : List Value} {g : Nat} {fs : List Fld} {sz mx : Nat} (h : Tab w tb ty pre post g fs sz mx) : tb < w.heap.size ∧ g < w.heap.size := by
  obtain ⟨k, cap, A, B, a1, a2, r⟩ := h.at_
  exact ⟨a1.lt, a2.lt⟩

theorem Tab.below {w w' : World} {tb : Nat} {ty : TypeId} {pre post : List Value} {g : Nat} {fs : List Fld} {sz mx : Nat} (h : Tab w tb ty pre post g fs sz mx) (hb : Below w.heap.size w w') : Tab w' tb ty pre post g fs sz mx :=
  h.same (hb.block _ h.lt.1) (hb.block _ h.lt.2)

set_option maxHeartbeats 1000000 in
theorem add_big (tb : Nat) (ty : TypeId) (pre post : List Value) (to : Nat) (hto : pre.length = to) (g : Nat) (fs : List Fld) (mx : Nat) (hw : wt fs ≤ 4194304) (a b : ByteArray) (ha : a.size ≤ 4194304) (hb : b.size ≤ 4194304) (hbig : mx < w1 (a, b)) (w : World) (hT : Tab w tb ty pre post g fs (wt fs) mx) :
    Calls Try.prog 37 #[.pointer (some ⟨tb, to, none⟩), .agg #[.string a, .string b]] w fun e w' => e = .returned (.tuple #[]) ∧ Tab w' tb ty pre post g [] 0 mx ∧ TabFr w w' tb g := by
  obtain ⟨k, cap, A, B, hb1, hb2, hne, hA, hcap, hB, hcm⟩ := hT.at_
  have c2 : w.cell? ⟨tb, to + 2, none⟩ = some (.int .u64 (mx : Int)) := by rw [hb1.cell, ← hto]; simp
  have Bel := fun o => (Below.refl w.heap.size w).alloc (Nat.le_refl _) o
  have Bel2 : ∀ o p, Below w.heap.size w ((w.alloc o).alloc p) := fun o p => (Bel o).alloc (by simp) p
  have e2 : ∀ o p, ((w.alloc o).alloc p).cell? ⟨tb, to + 2, none⟩ = some (.int .u64 (mx : Int)) := fun o p => cell_later (Bel2 o p) c2
  have C := fun w => size_any a b ha hb w
  have E : ∀ w', Tab w' tb ty pre post g fs (wt fs) mx → Calls Try.prog 40 #[.pointer (some ⟨tb, to, none⟩), .int .u64 0] w' fun e w'' => e = .returned (.tuple #[]) ∧ ∃ j, IsWin fs 0 j ∧ Tab w'' tb ty pre post g (fs.drop j) (wt (fs.drop j)) mx ∧ TabFr w' w'' tb g := fun w' h => evict_any tb ty pre post to hto g fs mx 0 hw w' h
  have HT : Hid (∀ o p, Tab ((w.alloc o).alloc p) tb ty pre post g fs (wt fs) mx) := fun o p => hT.below (Bel2 o p)
  have HF : Hid (∀ o p, TabFr w ((w.alloc o).alloc p) tb g) := fun o p => ((TabFr.refl w tb g).alloc o).alloc p
  have HX : Hid (w1 (a, b) ≤ 8388640) := by show _ ≤ _; simp only [w1]; omega
  have hx := HX.out
  clear hT hb1 hb2 hA hB hcap hcm Bel Bel2
  generalize hxx : w1 (a, b) = x at *
  have HXX : Hid (w1 (a, b) = x) := hxx
  clear hxx
  go_enter Try.func37, Try.ntmps37
  go_wp2_with (go_at_call 39; refine (C _).mono ?_; rintro e w' ⟨rfl, rfl⟩)
  refine (E _ (HT.out _ _)).mono ?_
  rintro e w' ⟨rfl, j, hj, hT', hF'⟩
  obtain ⟨hnil, _⟩ := IsWin.add_big (f := (a, b)) (by rw [HXX.out]; exact hbig) hj
  rw [hnil] at hT'
  go_wp2
  refine bodyPost_ret (results_none rfl _ _ _) rfl ?_
  exact ⟨rfl, hT', (HF.out _ _).trans hF'⟩

/-- What the append with room, the two stores and the sum do to the two blocks. -/
theorem add_blocks {w wr : World} {tb g to q : Nat} {ty : TypeId} {pre post A C : List Value} {sl sl' s s' m x y a b : Value} (hto : pre.length = to) (hA : A.length = q) (hne : tb ≠ g)
    (h1 : Blk wr tb (pre ++ (sl :: s :: m :: post)) ty) (h2 : Blk wr g (A ++ (x :: y :: C)) 41) (hF : TabFr w wr tb g) (O : Obj) :
    Blk (((((wr.alloc O).setCell ⟨g, q, none⟩ a).setCell ⟨g, q + 1, none⟩ b).setCell ⟨tb, to, none⟩ sl').setCell ⟨tb, to + 1, none⟩ s').drew tb (pre ++ (sl' :: s' :: m :: post)) ty ∧
    Blk (((((wr.alloc O).setCell ⟨g, q, none⟩ a).setCell ⟨g, q + 1, none⟩ b).setCell ⟨tb, to, none⟩ sl').setCell ⟨tb, to + 1, none⟩ s').drew g (A ++ (a :: b :: C)) 41 ∧
    TabFr w (((((wr.alloc O).setCell ⟨g, q, none⟩ a).setCell ⟨g, q + 1, none⟩ b).setCell ⟨tb, to, none⟩ sl').setCell ⟨tb, to + 1, none⟩ s').drew tb g := by
  refine ⟨?_, ?_, ?_⟩
  · have a1 := (((h1.alloc O).set_other ⟨g, q, none⟩ a hne).set_other ⟨g, q + 1, none⟩ b hne).set to sl'
    rw [set_at _ _ _ _ _ hto] at a1
    have a2 := a1.set (to + 1) s'
    rw [set_at1 _ _ _ _ _ _ hto] at a2
    exact a2.drew
  · have a1 := (h2.alloc O).set q a
    rw [set_at _ _ _ _ _ hA] at a1
    have a2 := a1.set (q + 1) b
    rw [set_at1 _ _ _ _ _ _ hA] at a2
    exact ((a2.set_other ⟨tb, to, none⟩ sl' (Ne.symm hne)).set_other ⟨tb, to + 1, none⟩ s' (Ne.symm hne)).drew
  · exact (((((hF.alloc O).setCell ⟨g, q, none⟩ a (.inr rfl)).setCell ⟨g, q + 1, none⟩ b (.inr rfl)).setCell ⟨tb, to, none⟩ sl' (.inl rfl)).setCell ⟨tb, to + 1, none⟩ s' (.inl rfl)).drew

theorem TabFr.grown {w wr w3 : World} {tb g : Nat} (h : TabFr w wr tb g) (O : Obj) (hg : (wr.alloc O).drew.grownBy w3 none) : TabFr w w3 tb g := by
  refine (h.alloc O).trans ⟨hg.os, hg.tape, hg.output, hg.size, fun k hk _ _ => hg.block k hk (by simp)⟩

/-- An owned row, written out. -/
theorem own_form {w : World} {base : Nat} {e : TypeId} {size : Nat} {v : Value} {n : Nat} {xs : List Value} (h : w.ownsRow base e size v n xs) (hn : 0 < n) :
    ∃ g cap L, v = .slice (some ⟨g, 0, none⟩) n cap ∧ base ≤ g ∧ Blk w g (xs ++ L) e ∧ n ≤ cap ∧ cap ≤ 9223372036854775807 ∧ (xs ++ L).length = cap * size := by
  rcases h.2 with ⟨_, h0⟩ | ⟨g, cap, cur, hv, hg, hh, hle, hm, hs, ht⟩
  · omega
  · have e : xs ++ cur.toList.drop (n * size) = cur.toList := by rw [← ht, List.take_append_drop]
    refine ⟨g, cap, cur.toList.drop (n * size), hv, hg, ?_, hle, hm, ?_⟩
    · unfold Blk
      rw [e]
      simpa using hh
    · rw [e]
      simpa using hs

set_option maxHeartbeats 1000000 in
theorem add_fits (tb : Nat) (ty : TypeId) (pre post : List Value) (to : Nat) (hto : pre.length = to) (g : Nat) (fs : List Fld) (mx : Nat) (hmx : mx < 18446744073709551616) (hw : wt fs ≤ 4194304) (a b : ByteArray) (ha : a.size ≤ 4194304) (hb : b.size ≤ 4194304) (hfit : w1 (a, b) ≤ mx) (w : World) (hT : Tab w tb ty pre post g fs (wt fs) mx) :
    Calls Try.prog 37 #[.pointer (some ⟨tb, to, none⟩), .agg #[.string a, .string b]] w fun e w' => e = .returned (.tuple #[]) ∧ ∃ g' j, IsWin fs (mx - w1 (a, b)) j ∧ (g' = g ∨ w.heap.size ≤ g') ∧ Tab w' tb ty pre post g' (fs.drop j ++ [(a, b)]) (wt (fs.drop j) + w1 (a, b)) mx ∧ TabFr w w' tb g := by
  obtain ⟨i0, hi, hz0, hz1, hz2⟩ := info_parts Try.info41a
  obtain ⟨k0, cap0, A0, B0, hb1, hb2, hne0, hA, hcap, hB, hcm⟩ := hT.at_
  have c2 : w.cell? ⟨tb, to + 2, none⟩ = some (.int .u64 (mx : Int)) := by rw [hb1.cell, ← hto]; simp
  have Bel := fun o => (Below.refl w.heap.size w).alloc (Nat.le_refl _) o
  have Bel2 : ∀ o p, Below w.heap.size w ((w.alloc o).alloc p) := fun o p => (Bel o).alloc (by simp) p
  have e2 : ∀ o p, ((w.alloc o).alloc p).cell? ⟨tb, to + 2, none⟩ = some (.int .u64 (mx : Int)) := fun o p => cell_later (Bel2 o p) c2
  have C := fun w => size_any a b ha hb w
  have HT : Hid (∀ o p, Tab ((w.alloc o).alloc p) tb ty pre post g fs (wt fs) mx) := fun o p => hT.below (Bel2 o p)
  have HF : Hid (∀ o p, TabFr w ((w.alloc o).alloc p) tb g) := fun o p => ((TabFr.refl w tb g).alloc o).alloc p
  have hx : w1 (a, b) ≤ 8388640 := by simp only [w1]; omega
  have HW : Hid (tb < w.heap.size ∧ g < w.heap.size) := hT.lt
  have E : ∀ w', Tab w' tb ty pre post g fs (wt fs) mx → Calls Try.prog 40 #[.pointer (some ⟨tb, to, none⟩), .int .u64 ((mx : Int) - (w1 (a, b) : Nat))] w' fun e w'' => e = .returned (.tuple #[]) ∧ ∃ j, IsWin fs (mx - w1 (a, b)) j ∧ Tab w'' tb ty pre post g (fs.drop j) (wt (fs.drop j)) mx ∧ TabFr w' w'' tb g := fun w' h => by
    have := evict_any tb ty pre post to hto g fs mx (mx - w1 (a, b)) hw w' h
    rwa [show ((mx - w1 (a, b) : Nat) : Int) = (mx : Int) - (w1 (a, b) : Nat) from by omega] at this
  clear hT hb1 hb2 hA hB hcap hcm Bel Bel2 A0 B0
  generalize hxx : w1 (a, b) = x at *
  have HXX : Hid (w1 (a, b) = x) := hxx
  clear hxx
  go_enter Try.func37, Try.ntmps37
  go_wp2_with (go_at_call 39; refine (C _).mono ?_; rintro e w' ⟨rfl, rfl⟩)
  refine (E _ (HT.out _ _)).mono ?_
  rintro e w' ⟨rfl, j, hj, hT', hF'⟩
  have HJ : Hid (IsWin fs (mx - x) j) := hj
  have HFF : Hid (TabFr w w' tb g) := (HF.out _ _).trans hF'
  have hbox : w'.heap[w.heap.size]? = some (.cells #[.string a, .string b] 41 (0, 0)) := by
    have hlt := HW.out
    rw [hF'.block w.heap.size (by simp; omega) (by omega) (by omega), Below.heap_alloc _ _ _ (by simp)]
    exact heap_alloc_new w _
  have x0 : w'.cell? ⟨w.heap.size, 0, none⟩ = some (.string a) := by simp [World.cell?, hbox]
  have x1 : w'.cell? ⟨w.heap.size, 1, none⟩ = some (.string b) := by simp [World.cell?, hbox]
  have hwj := wt_drop_le fs j
  have hsz := HFF.out.size
  obtain ⟨k, cap, A, B, hb1, hb2, hne, hA, hcap, hB, hcm⟩ := hT'.at_
  have HB1 : Hid (Blk w' tb (pre ++ (.slice (some ⟨g, 2 * k, none⟩) (fs.drop j).length cap :: .int .u64 ((wt (fs.drop j) : Nat) : Int) :: .int .u64 mx :: post)) ty) := hb1
  have HB2 : Hid (Blk w' g (A ++ (flat (fs.drop j) ++ B)) 41) := hb2
  have c0 : w'.cell? ⟨tb, to, none⟩ = some (.slice (some ⟨g, 2 * k, none⟩) (fs.drop j).length cap) := by rw [hb1.cell, ← hto]; simp
  have c1 : w'.cell? ⟨tb, to + 1, none⟩ = some (.int .u64 ((wt (fs.drop j) : Nat) : Int)) := by rw [hb1.cell, ← hto]; simp
  have f0 : ∀ o, (w'.alloc o).frozen? ⟨tb, to, none⟩ = false := fun o => (hb1.alloc o).free _
  have f1 : ∀ o, (w'.alloc o).frozen? ⟨tb, to + 1, none⟩ = false := fun o => (hb1.alloc o).free _
  have n0 : w'.heap.size ≠ tb := by have := hb1.lt; omega
  have n1 : w'.heap.size ≠ g := by have := hb2.lt; omega
  have n2 : w'.heap.size ≠ w.heap.size := by have := lt_of_block hbox; omega
  have n3 : tb ≠ w.heap.size := by have := HW.out; omega
  clear hb1 hb2 hF' hj E C HT HF hT' hbox e2 c2
  generalize hl : (fs.drop j).length = len at *
  generalize hsw : wt (fs.drop j) = sz at *
  have HSW : Hid (wt (fs.drop j) = sz ∧ (fs.drop j).length = len) := ⟨hsw, hl⟩
  clear hsw hl
  by_cases hroom : len + 1 ≤ cap
  · obtain ⟨y0, y1, B', rfl⟩ : ∃ x y r', B = x :: y :: r' := by
      match B, hB with
      | [], hr => simp at hr; omega
      | [x], hr => simp at hr; omega
      | x :: y :: r', _ => exact ⟨x, y, r', rfl⟩
    have hfl : (A ++ flat (fs.drop j)).length = 2 * k + len * 2 := by rw [List.length_append, flat_length, HSW.out.2]; omega
    have HFL : Hid ((A ++ flat (fs.drop j)).length = 2 * k + len * 2) := hfl
    have hb2' : Blk w' g ((A ++ flat (fs.drop j)) ++ y0 :: y1 :: B') 41 := by rw [List.append_assoc]; exact HB2.out
    have d0 : ∀ o, (w'.alloc o).cell? ⟨g, 2 * k + len * 2, none⟩ = some y0 := fun o => by rw [(hb2'.alloc o).cell, ← hfl]; simp
    have d1 : ∀ o, (w'.alloc o).cell? ⟨g, 2 * k + len * 2 + 1, none⟩ = some y1 := fun o => by rw [(hb2'.alloc o).cell, ← hfl, List.getElem?_append_right (by omega)]; simp
    have f2 : ∀ o, (w'.alloc o).frozen? ⟨g, 2 * k + len * 2, none⟩ = false := fun o => (hb2'.alloc o).free _
    have f3 : ∀ o, (w'.alloc o).frozen? ⟨g, 2 * k + len * 2 + 1, none⟩ = false := fun o => (hb2'.alloc o).free _
    have g0 : ∀ o, (w'.alloc o).cell? ⟨tb, to, none⟩ = some (.slice (some ⟨g, 2 * k, none⟩) len cap) := fun o => cell_later ((Below.refl w'.heap.size w').alloc (Nat.le_refl _) o) c0
    have g1 : ∀ o, (w'.alloc o).cell? ⟨tb, to + 1, none⟩ = some (.int .u64 (sz : Int)) := fun o => cell_later ((Below.refl w'.heap.size w').alloc (Nat.le_refl _) o) c1
    have hroom' : ((len : Int) + 1) ≤ (cap : Int) := by omega
    have HB2' : Hid (Blk w' g ((A ++ flat (fs.drop j)) ++ y0 :: y1 :: B') 41) := hb2'
    clear hb2' hfl
    go_wp2
    go_region
    all_goals go_wp2
    all_goals
      go_end0
      obtain ⟨q1, q2, q3⟩ := add_blocks (sl' := .slice (some ⟨g, 2 * k, none⟩) (len + 1) cap) (s' := .int .u64 ((sz : Int) + (x : Int))) (a := .string a) (b := .string b) hto HFL.out hne HB1.out HB2'.out HFF.out (.cells #[.string a, .string b] 41)
      refine ⟨rfl, g, j, HJ.out, .inl rfl, ⟨k, cap, A, B', ?_, ?_, hne, hA, ?_, ?_, hcm⟩, q3⟩
      · rw [List.length_append, HSW.out.1, HSW.out.2, Int.natCast_add]
        exact q1
      · rw [flat_append]
        simpa [flat] using q2
      · rw [List.length_append, HSW.out.2]
        exact hroom
      · rw [List.length_append, HSW.out.2]
        simp at hB ⊢
        omega
  · have hfull : cap < len + 1 := by omega
    have hlb : len ≤ 4194304 := by
      have h1 := HSW.out
      have h2 : ∀ l : List Fld, l.length ≤ wt l := by
        intro l
        induction l with
        | nil => simp
        | cons f r ih => simp only [wt, w1, List.length_cons]; omega
      have := h2 (fs.drop j)
      omega
    have hb2' : Blk (w'.alloc (.cells #[.string a, .string b] 41)) g (A ++ (flat (fs.drop j) ++ B)) 41 := HB2.out.alloc _
    have HLO : Hid ((flat (fs.drop j)).length = len * 2) := by show _ = _; rw [flat_length, HSW.out.2]; omega
    have HOLDS : Hid (∀ p, some (⟨g, 2 * k, none⟩ : Addr) = some p → ∀ j' u, (flat (fs.drop j))[j']? = some u → ((w'.alloc (.cells #[.string a, .string b] 41)).drew).cell? (p.add j') = some u) := by
      intro p hp j' u hu
      obtain rfl := Option.some.inj hp
      have hlt : j' < (flat (fs.drop j)).length := (List.getElem?_eq_some_iff.1 hu).1
      rw [Addr.add_lit]
      show (w'.alloc (.cells #[.string a, .string b] 41)).cell? _ = _
      rw [hb2'.cell, List.getElem?_append_right (by omega), List.getElem?_append_left (by omega), show 2 * k + j' - A.length = j' from by omega, hu]
    have HNEWS : Hid (∀ j' u, [Value.string a, Value.string b][j']? = some u → ((w'.alloc (.cells #[.string a, .string b] 41)).drew).cell? ((⟨w'.heap.size, 0, none⟩ : Addr).add j') = some u) := by
      intro j' u hu
      rw [Addr.add_lit]
      show (w'.alloc (.cells #[.string a, .string b] 41)).cell? _ = _
      rw [(Blk.new w' [.string a, .string b] 41).cell, Nat.zero_add]
      exact hu
    have H1C : Hid (∀ u ∈ [Value.string a, Value.string b], u.oneCell' = true) := by
      intro u hu
      simp at hu
      rcases hu with rfl | rfl <;> rfl
    have hb1' : Blk (w'.alloc (.cells #[.string a, .string b] 41)) tb (pre ++ (.slice (some ⟨g, 2 * k, none⟩) len cap :: .int .u64 (sz : Int) :: .int .u64 mx :: post)) ty := HB1.out.alloc _
    have HB1' : Hid (Blk (w'.alloc (.cells #[.string a, .string b] 41)) tb (pre ++ (.slice (some ⟨g, 2 * k, none⟩) len cap :: .int .u64 (sz : Int) :: .int .u64 mx :: post)) ty) := hb1'
    clear hb1' hb2'
    have m1 : len + 1 ≤ maxLen := by unfold maxLen; omega
    have g0 : ∀ o, (w'.alloc o).cell? ⟨tb, to, none⟩ = some (.slice (some ⟨g, 2 * k, none⟩) len cap) := fun o => cell_later ((Below.refl w'.heap.size w').alloc (Nat.le_refl _) o) c0
    have g1 : ∀ o, (w'.alloc o).cell? ⟨tb, to + 1, none⟩ = some (.int .u64 (sz : Int)) := fun o => cell_later ((Below.refl w'.heap.size w').alloc (Nat.le_refl _) o) c1
    go_wp2
    go_region_law (refine step_append_grows (by rfl) (.tmp 28) (.tmp 30) 61 (by rfl) 41 i0 _ 2 32 Try.underlying61 hi hz0 hz1 hz2 (by rfl) (by decide) (some ⟨g, 2 * k, none⟩) len cap (flat (fs.drop j)) (by simp [Act.eval]) (by simp) HLO.out HOLDS.out ⟨w'.heap.size, 0, none⟩ 1 1 [.string a, .string b] (by simp [Act.eval]) (by rfl) HNEWS.out H1C.out hfull m1 (by omega) ?_; intro v2 w3 hown hgrow; obtain ⟨g2, cap2, L, rfl, hg2, hL, hle2, hmax2, hsz2⟩ := own_form hown (by omega); have hB3 : Hid (Blk w3 tb (pre ++ (.slice (some ⟨g, 2 * k, none⟩) len cap :: .int .u64 (sz : Int) :: .int .u64 mx :: post)) ty) := HB1'.out.same (hgrow.block tb HB1'.out.lt (by simp)); have c0' : w3.cell? ⟨tb, to, none⟩ = some (.slice (some ⟨g, 2 * k, none⟩) len cap) := (by rw [hB3.out.cell, ← hto]; simp); have c1' : w3.cell? ⟨tb, to + 1, none⟩ = some (.int .u64 (sz : Int)) := (by rw [hB3.out.cell, ← hto]; simp); have f0' : w3.frozen? ⟨tb, to, none⟩ = false := hB3.out.free _; have f1' : w3.frozen? ⟨tb, to + 1, none⟩ = false := hB3.out.free _)
    all_goals
      have HGR : Hid (TabFr w w3 tb g) := HFF.out.grown _ hgrow
      have HL : Hid (Blk w3 g2 (flat (fs.drop j) ++ [.string a, .string b] ++ L) 41) := hL
      have HG2 : Hid (w'.heap.size + 1 ≤ g2) := by show _ ≤ _; simpa using hg2
      have HS2 : Hid ((flat (fs.drop j) ++ [Value.string a, Value.string b] ++ L).length = cap2 * 2) := hsz2
      have HLT : Hid (tb < w'.heap.size) := HB1.out.lt
      clear hown hgrow hL hg2 hsz2 HOLDS HNEWS g0 g1 f0 f1 x0 x1 c0 c1 HB2 HB1' HB1
      go_wp2
      go_end0
      have hlt := HLT.out
      have hg2 := HG2.out
      have hneq : tb ≠ g2 := by omega
      have b1 := hB3.out.set to (.slice (some ⟨g2, 0, none⟩) (len + 1) cap2)
      rw [set_at _ _ _ _ _ hto] at b1
      have b2 := b1.set (to + 1) (.int .u64 ((sz : Int) + (x : Int)))
      rw [set_at1 _ _ _ _ _ _ hto] at b2
      have b3 := (HL.out.set_other ⟨tb, to, none⟩ (.slice (some ⟨g2, 0, none⟩) (len + 1) cap2) (Ne.symm hneq)).set_other ⟨tb, to + 1, none⟩ (.int .u64 ((sz : Int) + (x : Int))) (Ne.symm hneq)
      refine ⟨rfl, g2, j, HJ.out, .inr (by omega), ⟨0, cap2, [], L, ?_, ?_, hneq, rfl, ?_, ?_, hmax2⟩, (HGR.out.setCell ⟨tb, to, none⟩ _ (.inl rfl)).setCell ⟨tb, to + 1, none⟩ _ (.inl rfl)⟩
      · rw [List.length_append, HSW.out.1, HSW.out.2, Int.natCast_add]
        exact b2
      · rw [flat_append]
        simpa [flat] using b3
      · rw [List.length_append, HSW.out.2]
        exact hle2
      · have h1 := HS2.out
        have h2 := HLO.out
        rw [List.length_append, List.length_append] at h1
        rw [List.length_append, HSW.out.2]
        simp at h1 ⊢
        omega

/-- (*table).add: what it makes of the table, as a window of the fields with the new one behind them. -/
theorem add_any (tb : Nat) (ty : TypeId) (pre post : List Value) (to : Nat) (hto : pre.length = to) (g : Nat) (fs : List Fld) (mx : Nat) (hmx : mx < 18446744073709551616) (hw : wt fs ≤ 4194304) (a b : ByteArray) (ha : a.size ≤ 4194304) (hb : b.size ≤ 4194304) (w : World) (hT : Tab w tb ty pre post g fs (wt fs) mx) :
    Calls Try.prog 37 #[.pointer (some ⟨tb, to, none⟩), .agg #[.string a, .string b]] w fun e w' => e = .returned (.tuple #[]) ∧ ∃ g' i, IsWin (fs ++ [(a, b)]) mx i ∧ (g' = g ∨ w.heap.size ≤ g') ∧ Tab w' tb ty pre post g' ((fs ++ [(a, b)]).drop i) (wt ((fs ++ [(a, b)]).drop i)) mx ∧ TabFr w w' tb g := by
  by_cases hf : w1 (a, b) ≤ mx
  · refine (add_fits tb ty pre post to hto g fs mx hmx hw a b ha hb hf w hT).mono ?_
    rintro e w' ⟨rfl, g', j, hj, hg, hT', hF⟩
    have e1 : (fs ++ [(a, b)]).drop j = fs.drop j ++ [(a, b)] := List.drop_append_of_le_length hj.1
    have e2 : wt ((fs ++ [(a, b)]).drop j) = wt (fs.drop j) + w1 (a, b) := by rw [e1, wt_append]; simp [wt]
    refine ⟨rfl, g', j, IsWin.add_fits hf hj, hg, ?_, hF⟩
    rw [e2, e1]
    exact hT'
  · refine (add_big tb ty pre post to hto g fs mx hw a b ha hb (by omega) w hT).mono ?_
    rintro e w' ⟨rfl, hT', hF⟩
    have hz : IsWin fs 0 fs.length := by
      refine ⟨Nat.le_refl _, by simp [wt], fun h => ?_⟩
      rw [wt_drop_succ fs (fs.length - 1) (by omega), w1]
      omega
    have hwin := (IsWin.add_big (f := (a, b)) (lim := mx) (by omega) hz).2
    refine ⟨rfl, g, fs.length + 1, hwin, .inl rfl, ?_, hF⟩
    have e1 : (fs ++ [(a, b)]).drop (fs.length + 1) = [] := List.drop_eq_nil_of_le (by simp)
    rw [e1]
    exact hT'

/-- ZZTableAdd -/
theorem zadd_any (tb : Nat) (ty : TypeId) (pre post : List Value) (to : Nat) (hto : pre.length = to) (g : Nat) (fs : List Fld) (mx : Nat) (hmx : mx < 18446744073709551616) (hw : wt fs ≤ 4194304) (a b : ByteArray) (ha : a.size ≤ 4194304) (hb : b.size ≤ 4194304) (w : World) (hT : Tab w tb ty pre post g fs (wt fs) mx) :
    Calls Try.prog 20 #[.pointer (some ⟨tb, to, none⟩), .agg #[.string a, .string b]] w fun e w' => e = .returned (.tuple #[]) ∧ ∃ g' i, IsWin (fs ++ [(a, b)]) mx i ∧ (g' = g ∨ w.heap.size ≤ g') ∧ Tab w' tb ty pre post g' ((fs ++ [(a, b)]).drop i) (wt ((fs ++ [(a, b)]).drop i)) mx ∧ TabFr w w' tb g := by
  have HC : Hid (∀ o, Calls Try.prog 37 #[.pointer (some ⟨tb, to, none⟩), .agg #[.string a, .string b]] (w.alloc o) fun e w' => e = .returned (.tuple #[]) ∧ ∃ g' i, IsWin (fs ++ [(a, b)]) mx i ∧ (g' = g ∨ (w.alloc o).heap.size ≤ g') ∧ Tab w' tb ty pre post g' ((fs ++ [(a, b)]).drop i) (wt ((fs ++ [(a, b)]).drop i)) mx ∧ TabFr (w.alloc o) w' tb g) :=
    fun o => add_any tb ty pre post to hto g fs mx hmx hw a b ha hb (w.alloc o) (hT.below ((Below.refl _ _).alloc (Nat.le_refl _) o))
  have HF : Hid (∀ o, TabFr w (w.alloc o) tb g) := fun o => (TabFr.refl w tb g).alloc o
  clear hT
  go_enter Try.func20, Try.ntmps20
  go_wp2_with (go_at_call 37; refine (HC.out _).mono ?_; rintro e w' ⟨rfl, g', i, hi, hg, hT', hF⟩)
  go_end0
  exact ⟨rfl, g', i, hi, by rcases hg with h | h; exact .inl h; exact .inr (by simp at h; omega), hT', (HF.out _).trans hF⟩

/-- ZZTableSetMaxSize -/
theorem zset_any (tb : Nat) (ty : TypeId) (pre post : List Value) (to : Nat) (hto : pre.length = to) (g : Nat) (fs : List Fld) (mx n : Nat) (hw : wt fs ≤ 4194304) (w : World) (hT : Tab w tb ty pre post g fs (wt fs) mx) :
    Calls Try.prog 24 #[.pointer (some ⟨tb, to, none⟩), .int .u64 (n : Int)] w fun e w' => e = .returned (.tuple #[]) ∧ ∃ j, IsWin fs n j ∧ Tab w' tb ty pre post g (fs.drop j) (wt (fs.drop j)) n ∧ TabFr w w' tb g := by
  have HC := setMax_any tb ty pre post to hto g fs mx n hw w hT
  clear hT
  go_enter Try.func24, Try.ntmps24
  go_wp2_with (go_at_call 38; refine HC.mono ?_; rintro e w' ⟨rfl, j, hj, hT', hF⟩)
  go_end0
  exact ⟨rfl, j, hj, hT', hF⟩

end Go.Proofs.Qxb6620837a
