/-
  THE WALK: ZZTableState (21).
-/
import Derived.Test.Qxb6620837aTab
import Derived.Deep.OwnRows
namespace Go.Proofs.Qxb6620837a
open Go.RowKit Win

theorem Try.info9s : (Try.prog.info? 9).map (fun i => (i.zero, i.size, i.bytes)) = some (some (.string ⟨#[]⟩), 1, 16) := by kernel_rfl

theorem results_tmp4 {fn : Func} {t u v x : Tmp} (h : fn.results = #[.tmp t, .tmp u, .tmp v, .tmp x]) (tmps : Array Value) (P : Program) (w : World) :
    (results fn tmps).run P w = .ok (.tuple #[tmps.getD t undef, tmps.getD u undef, tmps.getD v undef, tmps.getD x undef]) w := by
  simp [results, h]

theorem strs_of_blk {w : World} {g : Nat} {xs : List ByteArray} {t : TypeId} (h : Blk w g (xs.map Value.string) t) : StrsAt w (some ⟨g, 0, none⟩) xs := by
  intro i hi
  refine ⟨g, 0, rfl, ?_⟩
  rw [h.cell]
  simp [hi]

theorem set1 {α : Type} (pre : List α) (x a : α) (r : List α) (n : Nat) (h : pre.length = n) : (pre ++ x :: r).set n a = pre ++ a :: r := by
  subst h; simp

theorem Tab.cells {w : World} {tb : Nat} {ty : TypeId} {pre post : List Value} {to g : Nat} {fs : List Fld} {sz mx : Nat} (hto : pre.length = to) (h : Tab w tb ty pre post g fs sz mx) :
    ∃ k cap, fs.length ≤ cap ∧ cap ≤ 9223372036854775807 ∧ w.cell? ⟨tb, to, none⟩ = some (.slice (some ⟨g, 2 * k, none⟩) fs.length cap) ∧ w.cell? ⟨tb, to + 1, none⟩ = some (.int .u64 (sz : Int)) ∧ w.cell? ⟨tb, to + 2, none⟩ = some (.int .u64 (mx : Int)) ∧
      ∀ i (hi : i < fs.length), w.cell? ⟨g, 2 * k + i * 2, none⟩ = some (.string fs[i].1) ∧ w.cell? ⟨g, 2 * k + i * 2 + 1, none⟩ = some (.string fs[i].2) := by
  obtain ⟨k, cap, A, B, hb1, hb2, _, hA, hcap, _, hcm⟩ := h.at_
  refine ⟨k, cap, hcap, hcm, by rw [hb1.cell, ← hto]; simp, by rw [hb1.cell, ← hto]; simp, by rw [hb1.cell, ← hto]; simp, fun i hi => ?_⟩
  obtain ⟨p1, p2⟩ := flat_get fs i hi
  have hl := flat_length fs
  rw [hb2.cell, hb2.cell]
  constructor
  · rw [List.getElem?_append_right (by omega), List.getElem?_append_left (by omega), show 2 * k + i * 2 - A.length = 2 * i from by omega, p1]
  · rw [List.getElem?_append_right (by omega), List.getElem?_append_left (by omega), show 2 * k + i * 2 + 1 - A.length = 2 * i + 1 from by omega, p2]

set_option maxHeartbeats 1000000 in
theorem state_any (tb : Nat) (ty : TypeId) (pre post : List Value) (to : Nat) (hto : pre.length = to) (g : Nat) (fs : List Fld) (sz mx n : Nat) (hx : fs.length = n) (hn : n ≤ 1048576) (w : World) (hT : Tab w tb ty pre post g fs sz mx) :
    Calls Try.prog 21 #[.pointer (some ⟨tb, to, none⟩)] w fun e w' => e = .returned (.tuple #[.slice (some ⟨w.heap.size, 0, none⟩) n n, .slice (some ⟨w.heap.size + 1, 0, none⟩) n n, .int .u64 (sz : Int), .int .u64 (mx : Int)]) ∧
      StrsAt w' (some ⟨w.heap.size, 0, none⟩) (fs.map Prod.fst) ∧ StrsAt w' (some ⟨w.heap.size + 1, 0, none⟩) (fs.map Prod.snd) ∧ Below w.heap.size w w' := by
  have hmk := run_make_row' (P := Try.prog) 33 9 (.string ⟨#[]⟩) 16 Try.underlying33 Try.info9s rfl .i64 .i64 n (by omega) (by omega)
  obtain ⟨mc, hmc⟩ : ∃ mc : List Value, mc.toArray = madeCells #[.string ⟨#[]⟩] n := ⟨(madeCells #[.string ⟨#[]⟩] n).toList, by simp⟩
  have hml : mc.length = n := by have := congrArg Array.size hmc; rw [size_madeCells] at this; simpa using this
  rw [← hmc] at hmk
  have HML : Hid (mc.length = n) := hml
  obtain ⟨kk, cap, hcap, hcm, c0, c1, c2, hcs⟩ := hT.cells hto
  rw [hx] at c0 hcap
  have HCS : Hid (∀ i (hi : i < fs.length), w.cell? ⟨g, 2 * kk + i * 2, none⟩ = some (.string fs[i].1) ∧ w.cell? ⟨g, 2 * kk + i * 2 + 1, none⟩ = some (.string fs[i].2)) := hcs
  have C0 : Hid (w.cell? ⟨tb, to, none⟩ = some (.slice (some ⟨g, 2 * kk, none⟩) n cap)) := c0
  have C1 : Hid (w.cell? ⟨tb, to + 1, none⟩ = some (.int .u64 (sz : Int))) := c1
  have C2 : Hid (w.cell? ⟨tb, to + 2, none⟩ = some (.int .u64 (mx : Int))) := c2
  have Bel := fun o => (Below.refl w.heap.size w).alloc (Nat.le_refl _) o
  have e0 : ∀ o, (w.alloc o).cell? ⟨tb, to, none⟩ = some (.slice (some ⟨g, 2 * kk, none⟩) n cap) := fun o => cell_later (Bel o) c0
  have HB0 : Hid (Blk ((w.alloc (.cells mc.toArray 9)).alloc (.cells mc.toArray 9)) w.heap.size mc 9 ∧ Blk ((w.alloc (.cells mc.toArray 9)).alloc (.cells mc.toArray 9)) (w.heap.size + 1) mc 9 ∧ Below w.heap.size w ((w.alloc (.cells mc.toArray 9)).alloc (.cells mc.toArray 9))) :=
    ⟨(Blk.new w mc 9).alloc _, by have := Blk.new (w.alloc (.cells mc.toArray 9)) mc 9; simpa using this, (Bel _).alloc (by simp) _⟩
  clear hmc hml hT hcs Bel c1 c2
  go_enter Try.func21, Try.ntmps21
  go_wp2
  clear c0 e0
  go_loopw [6] (fun i wr => ∃ k : Nat, k ≤ n ∧ i = .int .i64 k ∧ Hid (∃ r1 r2, r1.length = n - k ∧ r2.length = n - k ∧ Blk wr w.heap.size (((fs.take k).map Prod.fst).map Value.string ++ r1) 9 ∧ Blk wr (w.heap.size + 1) (((fs.take k).map Prod.snd).map Value.string ++ r2) 9) ∧ Below w.heap.size w wr) (fun i _ => n - (intOf i).toNat)
  case atStart => exact ⟨0, Nat.zero_le _, rfl, ⟨mc, mc, by rw [HML.out]; rfl, by rw [HML.out]; rfl, by simpa using HB0.out.1, by simpa using HB0.out.2.1⟩, HB0.out.2.2⟩
  case round =>
    obtain ⟨k, hk, rfl, hR, hBel⟩ := hrel
    obtain ⟨r1, r2, hr1, hr2, hb1, hb2⟩ := hR
    have HBel : Hid (Below w.heap.size w wr) := hBel
    have c0 := cell_later hBel C0.out
    have c1 := cell_later hBel C1.out
    have c2 := cell_later hBel C2.out
    have n0 : tb ≠ w.heap.size := by have := block_lt_of_cell C0.out; simp at this; omega
    have n0' : tb ≠ w.heap.size + 1 := by have := block_lt_of_cell C0.out; simp at this; omega
    clear hBel
    by_cases hlt : k < n
    · have hkf : k < fs.length := by omega
      obtain ⟨p1, p2⟩ := HCS.out k hkf
      have g1 := cell_later HBel.out p1
      have g2 := cell_later HBel.out p2
      have n1 : g ≠ w.heap.size := by have := block_lt_of_cell p1; simp at this; omega
      have n2 : g ≠ w.heap.size + 1 := by have := block_lt_of_cell p1; simp at this; omega
      obtain ⟨x, r1, rfl⟩ : ∃ x r', r1 = x :: r' := by
        match r1, hr1 with
        | [], hr => simp at hr; omega
        | x :: r', _ => exact ⟨x, r', rfl⟩
      obtain ⟨y, r2, rfl⟩ : ∃ x r', r2 = x :: r' := by
        match r2, hr2 with
        | [], hr => simp at hr; omega
        | x :: r', _ => exact ⟨x, r', rfl⟩
      have hl1 : (((fs.take k).map Prod.fst).map Value.string).length = k := by simp; omega
      have hl2 : (((fs.take k).map Prod.snd).map Value.string).length = k := by simp; omega
      have d0 : wr.cell? ⟨w.heap.size, k, none⟩ = some x := by
        rw [hb1.cell, List.getElem?_append_right (by omega), hl1]; simp
      have d1 : wr.cell? ⟨w.heap.size + 1, k, none⟩ = some y := by
        rw [hb2.cell, List.getElem?_append_right (by omega), hl2]; simp
      have f0 : wr.frozen? ⟨w.heap.size, k, none⟩ = false := hb1.free _
      have f1 : wr.frozen? ⟨w.heap.size + 1, k, none⟩ = false := hb2.free _
      have HB : Hid (Blk wr w.heap.size (((fs.take k).map Prod.fst).map Value.string ++ x :: r1) 9 ∧ Blk wr (w.heap.size + 1) (((fs.take k).map Prod.snd).map Value.string ++ y :: r2) 9) := ⟨hb1, hb2⟩
      have HFL : Hid ((((fs.take k).map Prod.fst).map Value.string).length = k ∧ (((fs.take k).map Prod.snd).map Value.string).length = k) := ⟨hl1, hl2⟩
      clear hb1 hb2 hl1 hl2 p1 p2
      have i1 : (0 : Int) ≤ (k : Int) := by omega
      have i2 : (k : Int) < (n : Int) := by omega
      generalize hf : fs[k] = f at *
      obtain ⟨a, b⟩ := f
      have HF : Hid (fs[k] = (a, b)) := hf
      clear hf
      go_wp2
      go_roundw
      case rel =>
        refine ⟨k + 1, by omega, by go_num, ⟨r1, r2, by simp at hr1; omega, by simp at hr2; omega, ?_, ?_⟩, (HBel.out.setCell (p := ⟨w.heap.size, k, none⟩) (Nat.le_refl _) _).setCell (p := ⟨w.heap.size + 1, k, none⟩) (Nat.le_succ _) _⟩
        · have q := (HB.out.1.set k (.string a)).set_other ⟨w.heap.size + 1, k, none⟩ (.string b) (by simp)
          rw [set1 _ _ _ _ _ HFL.out.1] at q
          rw [List.take_succ_eq_append_getElem hkf, HF.out]
          simpa using q
        · have q := (HB.out.2.set_other ⟨w.heap.size, k, none⟩ (.string a) (by simp)).set k (.string b)
          rw [set1 _ _ _ _ _ HFL.out.2] at q
          rw [List.take_succ_eq_append_getElem hkf, HF.out]
          simpa using q
      case measure => simp [intOf]; omega
    · go_wp2
      go_quiet (fail)
      go_wp2
      refine bodyPost_ret (results_tmp4 rfl _ _ _) rfl ?_
      have hT : fs.take k = fs := List.take_of_length_le (by omega)
      rw [hT] at hb1 hb2
      obtain rfl : r1 = [] := List.eq_nil_of_length_eq_zero (by omega)
      obtain rfl : r2 = [] := List.eq_nil_of_length_eq_zero (by omega)
      rw [List.append_nil] at hb1 hb2
      exact ⟨rfl, (strs_of_blk hb1).drewN _, (strs_of_blk hb2).drewN _, below_drewN HBel.out _⟩

end Go.Proofs.Qxb6620837a
