/-
  THE WALKS: zzJoinStrings (22), zzIsSuffix (35).
-/
import Derived.Test.Qxb6620837aStrs
import Derived.Laws.CopyOwn
import Derived.Deep.OwnRows
namespace Go.Proofs.Qxb6620837a
open Go.RowKit

theorem Try.info9 : (Try.prog.info? 9).map (fun i => (i.zero, i.size, i.bytes)) = some (some (.string ByteArray.empty), 1, 16) := by kernel_rfl
theorem Try.size9 : (Try.prog.info? 9).map (·.size) = some 1 := by kernel_rfl

theorem strs_oneCell (xs : List ByteArray) : ∀ u ∈ xs.map Value.string, u.oneCell' = true := by
  intro u hu
  obtain ⟨_, _, rfl⟩ := List.mem_map.1 hu
  rfl

/-- A whole block of strings. -/
theorem strs_of_block {w : World} {g : Nat} {xs : List ByteArray} {t : TypeId} (h : w.heap[g]? = some (.cells (xs.map Value.string).toArray t (0, 0))) : StrsAt w (some ⟨g, 0, none⟩) xs := by
  intro i hi
  refine ⟨g, 0, rfl, ?_⟩
  simp [World.cell?, h, hi]

/-- What 'copy' asks of a source that is a slice of strings. -/
theorem StrsAt.src {w : World} {ao : Option Addr} {xs : List ByteArray} (h : StrsAt w ao xs) (h0 : 0 < (xs.map Value.string).length) : ∃ ad, ao = some ad ∧ ∀ j v, (xs.map Value.string)[j]? = some v → w.cell? (ad.add j) = some v := by
  obtain ⟨b, o, rfl, hc⟩ := h.at (by simpa using h0)
  refine ⟨_, rfl, fun j v hj => ?_⟩
  have hjl : j < xs.length := by simpa using (List.getElem?_eq_some_iff.1 hj).1
  rw [Addr.add_lit, hc j hjl, ← hj]
  simp [hjl]

theorem splice_two {α : Type} (L a b : List α) (h : L.length = a.length + b.length) : splice (splice L 0 a) a.length b = a ++ b := by
  unfold splice
  simp [h]

set_option maxHeartbeats 400000 in
theorem join_any (ao bo : Option Addr) (la lb ca cb : Nat) (xs ys : List ByteArray) (hx : xs.length = la) (hy : ys.length = lb) (hla : la ≤ 1048576) (hlb : lb ≤ 1048576) (w : World) (h1 : StrsAt w ao xs) (h2 : StrsAt w bo ys) :
    Calls Try.prog 22 #[.slice ao la ca, .slice bo lb cb] w fun e w' => e = .returned (.slice (some ⟨w.heap.size, 0, none⟩) (la + lb) (la + lb)) ∧ StrsAt w' (some ⟨w.heap.size, 0, none⟩) (xs ++ ys) ∧ Below w.heap.size w w' ∧ w.heap.size < w'.heap.size := by
  have hmk0 := run_make_row' (P := Try.prog) 33 9 (.string ByteArray.empty) 16 Try.underlying33 Try.info9 rfl .i64 .i64 (la + lb) (by omega) (by omega)
  have hmk : ∀ w, (Instr.makeSlice 33 (.int .i64 ((la : Int) + lb)) (.int .i64 ((la : Int) + lb))).run Try.prog w = .ok (.slice (some ⟨w.heap.size, 0, none⟩) (la + lb) (la + lb)) (w.alloc (.cells (madeCells #[.string ByteArray.empty] (la + lb)) 9)) := by
    intro w; have := hmk0 w; rwa [Int.natCast_add] at this
  clear hmk0
  obtain ⟨mc, hmc⟩ : ∃ mc : List Value, mc.toArray = madeCells #[.string ByteArray.empty] (la + lb) := ⟨(madeCells #[.string ByteArray.empty] (la + lb)).toList, by simp⟩
  have hml : mc.length = la + lb := by have := congrArg Array.size hmc; rw [size_madeCells] at this; simpa using this
  rw [← hmc] at hmk
  have HML : Hid (mc.length = la + lb) := hml
  obtain ⟨X, hX⟩ : ∃ X : List Value, X = xs.map Value.string := ⟨_, rfl⟩
  obtain ⟨Y, hY⟩ : ∃ Y : List Value, Y = ys.map Value.string := ⟨_, rfl⟩
  have HX : Hid (X = xs.map Value.string ∧ X.length = la ∧ (∀ v ∈ X, v.oneCell' = true)) := ⟨hX, by rw [hX]; simpa using hx, by rw [hX]; exact strs_oneCell _⟩
  have HY : Hid (Y = ys.map Value.string ∧ Y.length = lb ∧ (∀ v ∈ Y, v.oneCell' = true)) := ⟨hY, by rw [hY]; simpa using hy, by rw [hY]; exact strs_oneCell _⟩
  have S1 : Hid (∀ w', Below w.heap.size w w' → 0 < X.length → ∃ ad, ao = some ad ∧ ∀ j v, X[j]? = some v → w'.cell? (ad.add j) = some v) := fun w' hb h => by rw [hX] at h ⊢; exact (h1.below hb).src h
  have S2 : Hid (∀ w', Below w.heap.size w w' → 0 < Y.length → ∃ ad, bo = some ad ∧ ∀ j v, Y[j]? = some v → w'.cell? (ad.add j) = some v) := fun w' hb h => by rw [hY] at h ⊢; exact (h2.below hb).src h
  have B0 : Hid (Below w.heap.size w (w.alloc (.cells mc.toArray 9))) := (Below.refl _ _).alloc (Nat.le_refl _) _
  clear hX hY hmc hml h1 h2
  by_cases hl0 : lb = 0
  · have hlz : lb ≤ 0 := by omega
    clear hl0
    go_enter Try.func22, Try.ntmps22
    go_wp2_with (first | (refine wpList_copy_splice (by rfl) (.tmp 12) (.tmp 13) 33 33 (by rfl) 9 Try.underlying33 Try.size9 _ _ _ _ _ _ (by rfl) (by rfl) w.heap.size 0 mc 9 (heap_alloc_new w _) X (by rw [HX.out.2.1]; exact (Nat.min_eq_left (by omega)).symm) (fun h => ⟨rfl, S1.out _ B0.out h⟩) (by rw [HX.out.2.1, HML.out]; omega) HX.out.2.2 w.heap.size w B0.out (Nat.le_refl _) ?_; intro w1 hg1 hb1) | (refine wpList_copy_splice (by rfl) (.tmp 18) (.tmp 19) 33 33 (by rfl) 9 Try.underlying33 Try.size9 _ _ _ _ _ _ (by rfl) (by rfl) w.heap.size la (splice mc 0 X) 9 hg1.out Y (by rw [HY.out.2.1]; first | exact (Nat.min_self _).symm | simp) (fun h => absurd h (by rw [HY.out.2.1]; omega)) (by rw [HY.out.2.1, length_splice _ _ _ (by rw [HX.out.2.1, HML.out]; omega), HML.out]; exact Nat.le_refl _) HY.out.2.2 w.heap.size w hb1 (Nat.le_refl _) ?_; intro w2 hg2 hb2))
    go_ret
    have hg := hg2.out
    have e := splice_two mc X Y (by rw [HX.out.2.1, HY.out.2.1, HML.out])
    rw [HX.out.2.1] at e
    rw [e, HX.out.1, HY.out.1, ← List.map_append] at hg
    refine ⟨rfl, strs_of_block hg, hb2, ?_⟩
    have := (Array.getElem?_eq_some_iff.1 hg).1
    exact this
  · have hlp : 0 < lb := by omega
    go_enter Try.func22, Try.ntmps22
    go_wp2_with (first | (refine wpList_copy_splice (by rfl) (.tmp 12) (.tmp 13) 33 33 (by rfl) 9 Try.underlying33 Try.size9 _ _ _ _ _ _ (by rfl) (by rfl) w.heap.size 0 mc 9 (heap_alloc_new w _) X (by rw [HX.out.2.1]; exact (Nat.min_eq_left (by omega)).symm) (fun h => ⟨rfl, S1.out _ B0.out h⟩) (by rw [HX.out.2.1, HML.out]; omega) HX.out.2.2 w.heap.size w B0.out (Nat.le_refl _) ?_; intro w1 hg1 hb1) | (refine wpList_copy_splice (by rfl) (.tmp 18) (.tmp 19) 33 33 (by rfl) 9 Try.underlying33 Try.size9 _ _ _ _ _ _ (by rfl) (by rfl) w.heap.size la (splice mc 0 X) 9 hg1.out Y (by rw [HY.out.2.1]; first | exact (Nat.min_self _).symm | simp) (fun h => ⟨rfl, S2.out _ hb1 h⟩) (by rw [HY.out.2.1, length_splice _ _ _ (by rw [HX.out.2.1, HML.out]; omega), HML.out]; exact Nat.le_refl _) HY.out.2.2 w.heap.size w hb1 (Nat.le_refl _) ?_; intro w2 hg2 hb2))
    go_ret
    have hg := hg2.out
    have e := splice_two mc X Y (by rw [HX.out.2.1, HY.out.2.1, HML.out])
    rw [HX.out.2.1] at e
    rw [e, HX.out.1, HY.out.1, ← List.map_append] at hg
    refine ⟨rfl, strs_of_block hg, hb2, ?_⟩
    have := (Array.getElem?_eq_some_iff.1 hg).1
    exact this

set_option maxHeartbeats 400000 in
/-- zzIsSuffix, where the second is no longer than the first -/
theorem suffix_any (ao bo : Option Addr) (la lb ca cb : Nat) (xs ys : List ByteArray) (hx : xs.length = la) (hy : ys.length = lb) (hle : lb ≤ la) (hca : la ≤ ca) (hnil : ao = none → la = 0 ∧ ca = 0) (w : World) (hm : la ≤ maxLen) (h1 : StrsAt w ao xs) (h2 : StrsAt w bo ys) :
    Calls Try.prog 35 #[.slice ao la ca, .slice bo lb cb] w fun e w' => e = .returned (.bool (decide (xs.drop (la - lb) = ys))) ∧ ∃ q, w' = w.drewN q := by
  have hm1 := hm
  unfold maxLen at hm1
  have hle' : (lb : Int) ≤ (la : Int) := by omega
  cases ao with
  | none =>
    obtain ⟨rfl, rfl⟩ := hnil rfl
    obtain rfl : lb = 0 := by omega
    obtain rfl := List.eq_nil_of_length_eq_zero hx
    obtain rfl := List.eq_nil_of_length_eq_zero hy
    have C := fun (b : Option Addr) c w => sames_any none b 0 0 0 c [] [] rfl rfl w (by unfold maxLen; omega) (by unfold maxLen; omega) (fun i hi => by simp at hi) (fun i hi => by simp at hi)
    go_enter Try.func35, Try.ntmps35
    go_wp2_with (go_at_call 26; refine (C _ _ _).mono ?_; rintro e w' ⟨rfl, q, rfl⟩)
    go_ret
    exact ⟨rfl, q, rfl⟩
  | some a =>
    by_cases h0 : lb = 0
    · subst h0
      obtain rfl := List.eq_nil_of_length_eq_zero hy
      have e : xs.drop (la - 0) = [] := by simp [← hx]
      rw [e]
      have C := fun (a b : Option Addr) c d w => sames_any a b 0 0 c d [] [] rfl rfl w (by unfold maxLen; omega) (by unfold maxLen; omega) (fun i hi => by simp at hi) (fun i hi => by simp at hi)
      go_enter Try.func35, Try.ntmps35
      go_wp2_with (go_at_call 26; refine (C _ _ _ _ _).mono ?_; rintro e w' ⟨rfl, q, rfl⟩)
      all_goals
        go_ret
        exact ⟨rfl, q, rfl⟩
    · obtain ⟨b, o, e, c1⟩ := h1.at (by omega)
      obtain rfl := Option.some.inj e
      have hd : StrsAt w (some ⟨b, o + (la - lb), none⟩) (xs.drop (la - lb)) := fun i hi => ⟨b, o + (la - lb), rfl, by
        have := c1 (la - lb + i) (by simp at hi; omega)
        rw [Nat.add_assoc, this]
        simp⟩
      have C := sames_any (some ⟨b, o + (la - lb), none⟩) bo (la - (la - lb)) lb (ca - (la - lb)) cb (xs.drop (la - lb)) ys (by simp; omega) hy w (by unfold maxLen; omega) (by unfold maxLen; omega) hd h2
      have hlp : 0 < lb := by omega
      go_enter Try.func35, Try.ntmps35
      go_wp2_with (go_at_call 26; refine C.mono ?_; rintro e w' ⟨rfl, q, rfl⟩)
      go_ret
      exact ⟨rfl, q, rfl⟩

end Go.Proofs.Qxb6620837a
