/-
  THE WALK: ZZNewTable (19).
-/
import Derived.Test.Qxb6620837aTab
import Derived.Laws.MakeOwn
import Derived.RegionTactic
import Derived.BigRegion
namespace Go.Proofs.Qxb6620837a
open Go.RowKit Win

theorem Try.info41 : (Try.prog.info? 41).map (fun i => (i.zero, i.size, i.bytes)) = some (some (.agg #[.string ⟨#[]⟩, .string ⟨#[]⟩]), 2, 32) := by kernel_rfl

theorem make61 (n : Nat) (hn : n ≤ 1048576) (w : World) : (Instr.makeSlice 61 (.int .i64 (n : Int)) (.int .i64 (n : Int))).run Try.prog w =
    .ok (.slice (some ⟨w.heap.size, 0, none⟩) n n) (w.alloc (.cells (madeCells #[.string ⟨#[]⟩, .string ⟨#[]⟩] (n * 2)) 41)) := by
  obtain ⟨i, hi, hz0, hz1, hz2⟩ := info_parts Try.info41
  have h := run_make (P := Try.prog) w 61 41 i _ Try.underlying61 hi hz0 .i64 .i64 n n (by omega) (by omega) (by rw [hz2]; omega) (by omega)
  simp only [Int.toNat_natCast, hz1] at h
  exact h

/-- What one round does to the row. -/
theorem set2 {α : Type} (pre : List α) (x y a b : α) (r : List α) (n : Nat) (h : pre.length = n) : ((pre ++ x :: y :: r).set n a).set (n + 1) b = pre ++ a :: b :: r := by
  subst h; simp

set_option maxHeartbeats 1000000 in
/-- ZZNewTable, both slices of one length -/
theorem newtab_any (ao bo : Option Addr) (n ca cb : Nat) (fs : List Fld) (hx : fs.length = n) (hn : n ≤ 1048576) (sz mx : Nat) (w : World)
    (h1 : StrsAt w ao (fs.map Prod.fst)) (h2 : StrsAt w bo (fs.map Prod.snd)) :
    Calls Try.prog 19 #[.slice ao n ca, .slice bo n cb, .int .u64 (sz : Int), .int .u64 (mx : Int)] w fun e w' => ∃ tb g, e = .returned (.pointer (some ⟨tb, 0, none⟩)) ∧ w.heap.size ≤ tb ∧ w.heap.size ≤ g ∧ Tab w' tb 63 [] [] g fs sz mx ∧ Below w.heap.size w w' := by
  have hmk := make61 n hn
  obtain ⟨mc, hmc⟩ : ∃ mc : List Value, mc.toArray = madeCells #[.string ⟨#[]⟩, .string ⟨#[]⟩] (n * 2) := ⟨(madeCells #[.string ⟨#[]⟩, .string ⟨#[]⟩] (n * 2)).toList, by simp⟩
  have hml : mc.length = 2 * n := by have := congrArg Array.size hmc; rw [size_madeCells] at this; simp at this; omega
  rw [← hmc] at hmk
  have HML : Hid (mc.length = 2 * n) := hml
  have HB0 : Hid (Blk (w.alloc (.cells mc.toArray 41)) w.heap.size mc 41 ∧ Below w.heap.size w (w.alloc (.cells mc.toArray 41))) := ⟨Blk.new w mc 41, (Below.refl _ _).alloc (Nat.le_refl _) _⟩
  clear hmc hml
  go_enter Try.func19, Try.ntmps19
  go_wp2
  go_loopw [10] (fun i wr => ∃ k : Nat, k ≤ n ∧ i = .int .i64 k ∧ Hid (∃ r, r.length = 2 * (n - k) ∧ Blk wr w.heap.size (flat (fs.take k) ++ r) 41) ∧ Below w.heap.size w wr) (fun i _ => n - (intOf i).toNat)
  case atStart => exact ⟨0, Nat.zero_le _, rfl, ⟨mc, by rw [HML.out]; rfl, by simpa [flat] using HB0.out.1⟩, HB0.out.2⟩
  case round =>
    obtain ⟨k, hk, rfl, hR, hBel⟩ := hrel
    obtain ⟨r, hr, hb⟩ := hR
    have HBel : Hid (Below w.heap.size w wr) := hBel
    clear hBel
    by_cases hlt : k < n
    · have hkf : k < fs.length := by omega
      obtain ⟨b1, o1, rfl, c1⟩ := h1.at (by simp; omega)
      obtain ⟨b2, o2, rfl, c2⟩ := h2.at (by simp; omega)
      have q1 := c1 k (by simpa using hkf)
      have q2 := c2 k (by simpa using hkf)
      have g1 : wr.cell? ⟨b1, o1 + k, none⟩ = some (.string fs[k].1) := by rw [cell_later HBel.out q1]; simp [hkf]
      have g2 : wr.cell? ⟨b2, o2 + k, none⟩ = some (.string fs[k].2) := by rw [cell_later HBel.out q2]; simp [hkf]
      have n1 : b1 ≠ w.heap.size := by have := block_lt_of_cell q1; simp at this; omega
      have n2 : b2 ≠ w.heap.size := by have := block_lt_of_cell q2; simp at this; omega
      clear c1 c2 q1 q2 h1 h2
      obtain ⟨x, y, r', rfl⟩ : ∃ x y r', r = x :: y :: r' := by
        match r, hr with
        | [], hr => simp at hr; omega
        | [x], hr => simp at hr; omega
        | x :: y :: r', _ => exact ⟨x, y, r', rfl⟩
      have hfl : (flat (fs.take k)).length = k * 2 := by rw [flat_length]; simp; omega
      have d0 : wr.cell? ⟨w.heap.size, k * 2, none⟩ = some x := by rw [hb.cell, ← hfl]; simp
      have d1 : wr.cell? ⟨w.heap.size, k * 2 + 1, none⟩ = some y := by rw [hb.cell, ← hfl]; simp
      have f0 : wr.frozen? ⟨w.heap.size, k * 2, none⟩ = false := hb.free _
      have f1 : wr.frozen? ⟨w.heap.size, k * 2 + 1, none⟩ = false := hb.free _
      have HB : Hid (Blk wr w.heap.size (flat (fs.take k) ++ x :: y :: r') 41) := hb
      have HFL : Hid ((flat (fs.take k)).length = k * 2) := hfl
      clear hb hfl
      have i1 : (0 : Int) ≤ (k : Int) := by omega
      have i2 : (k : Int) < (n : Int) := by omega
      generalize hf : fs[k] = f at *
      obtain ⟨a, b⟩ := f
      have HF : Hid (fs[k] = (a, b)) := hf
      clear hf
      go_wp2
      go_region
      all_goals go_wp2
      all_goals
        go_roundw
        case rel =>
          refine ⟨k + 1, by omega, by go_num, ⟨r', by simp at hr; omega, ?_⟩, ((HBel.out.setCell (p := ⟨w.heap.size, k * 2, none⟩) (Nat.le_refl _) _).setCell (p := ⟨w.heap.size, k * 2 + 1, none⟩) (Nat.le_refl _) _).drew⟩
          have q := (HB.out.set (k * 2) (.string a)).set (k * 2 + 1) (.string b)
          rw [set2 _ _ _ _ _ _ _ HFL.out] at q
          rw [List.take_succ_eq_append_getElem hkf, flat_append, HF.out]
          simpa [flat] using q.drew
        case measure => simp [intOf]; omega
    · go_wp2
      go_ret
      have hT : fs.take k = fs := List.take_of_length_le (by omega)
      rw [hT] at hb
      obtain rfl : r = [] := List.eq_nil_of_length_eq_zero (by omega)
      have hsz := HBel.out.size
      have hgl := hb.lt
      refine ⟨wr.heap.size, w.heap.size, rfl, hsz, Nat.le_refl _, ⟨0, n, [], [], ?_, ?_, by omega, rfl, by omega, by simp [hx], by omega⟩, HBel.out.alloc hsz _⟩
      · rw [hx]
        exact Blk.new wr [.slice (some ⟨w.heap.size, 0, none⟩) n n, .int .u64 (sz : Int), .int .u64 (mx : Int)] 63
      · simpa using hb.alloc _

end Go.Proofs.Qxb6620837a
