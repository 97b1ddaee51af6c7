/-
  THE WALKS: zzClone (6), zzSkippable (8), zzAllSpace (10).
-/
import Derived.Test.Qxb6623341aBytes
import Derived.Lib.SliceRun
import Derived.Laws.CopyOwn
import Derived.Deep.OwnRows
namespace Go.Proofs.Qxb6623341a
open Go.RowKit

theorem Try.info5 : (Try.prog.info? 5).map (fun i => (i.zero, i.size, i.bytes)) = some (some (.int .u8 0), 1, 1) := by kernel_rfl

/-- Block b is a row of cells of type t, none frozen: the list cs. -/
def Blk (w : World) (b : Nat) (cs : List Value) (t : TypeId) : Prop := w.heap[b]? = some (.cells cs.toArray t (0, 0))

theorem Blk.cell {w : World} {b : Nat} {cs : List Value} {t : TypeId} (h : Blk w b cs t) (i : Nat) : w.cell? ⟨b, i, none⟩ = cs[i]? := by
  rw [cell_of_row w b i _ t _ h]; simp
theorem Blk.free {w : World} {b : Nat} {cs : List Value} {t : TypeId} (h : Blk w b cs t) (i : Nat) : w.frozen? ⟨b, i, none⟩ = false := frozen_of_row w b i _ t h
theorem Blk.lt {w : World} {b : Nat} {cs : List Value} {t : TypeId} (h : Blk w b cs t) : b < w.heap.size := lt_of_block h
theorem Blk.set {w : World} {b : Nat} {cs : List Value} {t : TypeId} (h : Blk w b cs t) (i : Nat) (v : Value) : Blk (w.setCell ⟨b, i, none⟩ v) b (cs.set i v) t := by
  unfold Blk
  rw [heap_setCell_same w b i _ t v h]
  simp
theorem Blk.new (w : World) (cs : List Value) (t : TypeId) : Blk (w.alloc (.cells cs.toArray t)) w.heap.size cs t := heap_alloc_new w _
theorem Blk.drewN {w : World} {b : Nat} {cs : List Value} {t : TypeId} (h : Blk w b cs t) (q : Nat) : Blk (w.drewN q) b cs t := h

theorem set1 {α : Type} (pre : List α) (x a : α) (r : List α) (n : Nat) (h : pre.length = n) : (pre ++ x :: r).set n a = pre ++ a :: r := by
  subst h; simp

theorem BytesAt.below {w w' : World} {ao : Option Addr} {xs : List Int} (h : BytesAt w ao xs) (hb : Below w.heap.size w w') : BytesAt w' ao xs := by
  intro i hi
  obtain ⟨b, o, e, hc⟩ := h i hi
  exact ⟨b, o, e, cell_later hb hc⟩

theorem BytesAt.cell {w : World} {b o : Nat} {xs : List Int} (h : BytesAt w (some ⟨b, o, none⟩) xs) (i : Nat) (hi : i < xs.length) : w.cell? ⟨b, o + i, none⟩ = some (.int .u8 xs[i]) := by
  obtain ⟨b', o', e, hc⟩ := h i hi
  simp at e
  obtain ⟨rfl, rfl⟩ := e
  rw [hc, getD_lt _ _ hi]

theorem BytesAt.of {w : World} {b o : Nat} {xs : List Int} (h : ∀ i (hi : i < xs.length), w.cell? ⟨b, o + i, none⟩ = some (.int .u8 xs[i])) : BytesAt w (some ⟨b, o, none⟩) xs := by
  intro i hi
  exact ⟨b, o, rfl, by rw [h i hi, getD_lt _ _ hi]⟩

set_option maxHeartbeats 600000 in
/-- zzClone of a slice that is not nil -/
theorem clone_any (b o n ca : Nat) (xs : List Int) (hx : xs.length = n) (hn : n ≤ 1048576) (w : World) (h1 : BytesAt w (some ⟨b, o, none⟩) xs) :
    Calls Try.prog 6 #[.slice (some ⟨b, o, none⟩) n ca] w fun e w' => e = .returned (.slice (some ⟨w.heap.size, 0, none⟩) n n) ∧ BytesAt w' (some ⟨w.heap.size, 0, none⟩) xs ∧ Below w.heap.size w w' := by
  have hq : ∀ W, (binOp .eql 22 (.slice (some ⟨b, o, none⟩) n ca) (.slice none 0 0)).run Try.prog W = .ok (.bool false) W := fun W => by
    simpa using Lib.run_eql_slice_nil (P := Try.prog) W 22 5 (some ⟨b, o, none⟩) n ca 0 0 Try.underlying22
  have hmk := run_make_row' (P := Try.prog) 22 5 (.int .u8 0) 1 Try.underlying22 Try.info5 rfl .i64 .i64 n (by omega) (by omega)
  obtain ⟨mc, hmc⟩ : ∃ mc : List Value, mc.toArray = madeCells #[.int .u8 0] n := ⟨(madeCells #[.int .u8 0] n).toList, by simp⟩
  have hml : mc.length = n := by have := congrArg Array.size hmc; rw [size_madeCells] at this; simpa using this
  rw [← hmc] at hmk
  have HML : Hid (mc.length = n) := hml
  have HB0 : Hid (Blk (w.alloc (.cells mc.toArray 5)) w.heap.size mc 5 ∧ Below w.heap.size w (w.alloc (.cells mc.toArray 5))) := ⟨Blk.new w mc 5, (Below.refl _ _).alloc (Nat.le_refl _) _⟩
  have HC : Hid (∀ i (hi : i < xs.length), w.cell? ⟨b, o + i, none⟩ = some (.int .u8 xs[i])) := fun i hi => h1.cell i hi
  clear hmc hml h1
  go_enter Try.func6, Try.ntmps6
  go_wp2
  go_loopw [4] (fun i wr => ∃ k : Nat, k ≤ n ∧ i = .int .i64 k ∧ Hid (∃ r1, r1.length = n - k ∧ Blk wr w.heap.size ((xs.take k).map (Value.int .u8) ++ r1) 5) ∧ Below w.heap.size w wr) (fun i _ => n - (intOf i).toNat)
  case atStart => exact ⟨0, Nat.zero_le _, rfl, ⟨mc, by rw [HML.out]; rfl, by simpa using HB0.out.1⟩, HB0.out.2⟩
  case round =>
    obtain ⟨k, hk, rfl, hR, hBel⟩ := hrel
    obtain ⟨r1, hr1, hb1⟩ := hR
    have HBel : Hid (Below w.heap.size w wr) := hBel
    clear hBel
    by_cases hlt : k < n
    · have hkf : k < xs.length := by omega
      have p1 := HC.out k hkf
      have g1 := cell_later HBel.out p1
      have n1 : b ≠ w.heap.size := by have := block_lt_of_cell p1; simp at this; omega
      obtain ⟨x, r1, rfl⟩ : ∃ x r', r1 = x :: r' := by
        match r1, hr1 with
        | [], hr => simp at hr; omega
        | x :: r', _ => exact ⟨x, r', rfl⟩
      have hl1 : ((xs.take k).map (Value.int .u8)).length = k := by simp; omega
      have d0 : wr.cell? ⟨w.heap.size, k, none⟩ = some x := by
        rw [hb1.cell, List.getElem?_append_right (by omega), hl1]; simp
      have f0 : wr.frozen? ⟨w.heap.size, k, none⟩ = false := hb1.free _
      have HB : Hid (Blk wr w.heap.size ((xs.take k).map (Value.int .u8) ++ x :: r1) 5) := hb1
      have HFL : Hid (((xs.take k).map (Value.int .u8)).length = k) := hl1
      clear hb1 hl1 p1
      have i1 : (0 : Int) ≤ (k : Int) := by omega
      have i2 : (k : Int) < (n : Int) := by omega
      generalize hf : xs[k] = f at *
      have HF : Hid (xs[k] = f) := hf
      clear hf
      go_wp2
      go_roundw
      case rel =>
        refine ⟨k + 1, by omega, by go_num, ⟨r1, by simp at hr1; omega, ?_⟩, HBel.out.setCell (p := ⟨w.heap.size, k, none⟩) (Nat.le_refl _) _⟩
        have q := HB.out.set k (.int .u8 f)
        rw [set1 _ _ _ _ _ HFL.out] at q
        rw [List.take_succ_eq_append_getElem hkf, HF.out]
        simpa using q
      case measure => simp [intOf]; omega
    · go_wp2
      go_ret
      have e : k = n := by omega
      subst e
      obtain rfl : r1 = [] := List.eq_nil_of_length_eq_zero (by omega)
      rw [List.take_of_length_le (by omega), List.append_nil] at hb1
      refine ⟨rfl, BytesAt.of fun i hi => ?_, HBel.out⟩
      rw [hb1.cell, Nat.zero_add]
      simp [hi]

/-- The seat's word for a stretch of spaces and at most one comma. -/
def skipB (ys : List Int) : Bool := ys.all (fun b => b == 44 || sp b) && decide (ys.count 44 ≤ 1)

theorem skipB_stop (ys : List Int) (k : Nat) (hk : k < ys.length) (h1 : ys[k] ≠ 44) (h2 : sp ys[k] = false) : false = skipB ys := by
  symm
  unfold skipB
  rw [Bool.and_eq_false_iff]
  left
  rw [List.all_eq_false]
  exact ⟨ys[k], List.getElem_mem hk, by simp [h1, h2]⟩

theorem all_take_succ {ys : List Int} {p : Int → Bool} {k : Nat} (hk : k < ys.length) (h : (ys.take k).all p = true) (h2 : p ys[k] = true) : (ys.take (k + 1)).all p = true := by
  rw [List.take_succ_eq_append_getElem hk, List.all_append, h]
  simp [h2]

set_option maxHeartbeats 600000 in
theorem skip_core (b o n ca : Nat) (ys : List Int) (hy : ys.length = n) (hn : n ≤ 1048576) (w : World) (HC : Hid (∀ i (hi : i < ys.length), w.cell? ⟨b, o + i, none⟩ = some (.int .u8 ys[i]))) :
    Calls Try.prog 8 #[.slice (some ⟨b, o, none⟩) n ca] w fun e w' => e = .returned (.bool (skipB ys)) ∧ w' = w := by
  have C := fun c => zspace_any c w
  go_enter Try.func8, Try.ntmps8
  go_wp2
  go_loop [4, 3] (fun i c => ∃ k m : Nat, k ≤ n ∧ i = .int .i64 k ∧ c = .int .i64 m ∧ m ≤ k ∧ Hid (m = (ys.take k).count 44 ∧ (ys.take k).all (fun b => b == 44 || sp b) = true)) (fun i _ => n - (intOf i).toNat)
  case atStart => exact ⟨0, 0, Nat.zero_le _, rfl, rfl, Nat.le_refl _, by simp, by simp⟩
  case round =>
    obtain ⟨k, m, hk, rfl, rfl, hmk, HR⟩ := hrel
    by_cases hlt : k < n
    · have hkf : k < ys.length := by omega
      have g1 := HC.out k hkf
      have i1 : (0 : Int) ≤ (k : Int) := by omega
      have i2 : (k : Int) < (n : Int) := by omega
      have C' := C ys[k]
      have S1 : Hid ((ys.take (k + 1)).count 44 = (ys.take k).count 44 + if ys[k] = 44 then 1 else 0) := by
        show (ys.take (k + 1)).count 44 = _
        rw [List.take_succ_eq_append_getElem hkf, List.count_append]
        simp [List.count_cons]
      have S2 : Hid (ys[k] ≠ 44 → sp ys[k] = false → false = skipB ys) := fun a b => skipB_stop ys k hkf a b
      have S3 : Hid ((ys[k] == 44 || sp ys[k]) = true → (ys.take (k + 1)).all (fun b => b == 44 || sp b) = true) := fun h => all_take_succ hkf HR.out.2 h
      generalize hf : ys[k] = f at *
      clear hf C
      by_cases h44 : f = 44
      · subst h44
        go_wp2
        go_round
        case rel => exact ⟨k + 1, m + 1, by omega, by go_num, by go_num, by omega, by have := S1.out; have := HR.out.1; simp at *; omega, S3.out rfl⟩
        case measure => simp [intOf]; omega
      · have k44 : (f == 44) = false := by simpa using h44
        cases hs : sp f with
        | true =>
          rw [hs] at C'
          go_wp2_with fail
          refine C'.mono ?_
          rintro e w' ⟨rfl, rfl⟩
          go_wp2_with fail
          go_round
          case rel => exact ⟨k + 1, m, by omega, by go_num, rfl, by omega, by have := S1.out; have := HR.out.1; rw [if_neg h44] at *; omega, S3.out (by rw [hs]; simp)⟩
          case measure => simp [intOf]; omega
        | false =>
          rw [hs] at C'
          go_wp2_with fail
          refine C'.mono ?_
          rintro e w' ⟨rfl, rfl⟩
          go_wp2_with fail
          go_ret
          exact ⟨ret_bool (S2.out h44 hs), rfl⟩
    · have e : k = n := by omega
      subst e
      have hfin : Hid (skipB ys = decide (m ≤ 1)) := by
        have h := HR.out
        rw [List.take_of_length_le (by omega)] at h
        show skipB ys = _
        unfold skipB
        rw [h.2, h.1]
        rfl
      go_wp2
      go_ret
      exact ⟨ret_bool (by rw [hfin.out]; exact decide_eq_decide.2 (by omega)), rfl⟩

set_option maxHeartbeats 600000 in
theorem allsp_core (b o n ca : Nat) (ys : List Int) (hy : ys.length = n) (hn : n ≤ 1048576) (w : World) (HC : Hid (∀ i (hi : i < ys.length), w.cell? ⟨b, o + i, none⟩ = some (.int .u8 ys[i]))) :
    Calls Try.prog 10 #[.slice (some ⟨b, o, none⟩) n ca] w fun e w' => e = .returned (.bool (ys.all sp)) ∧ w' = w := by
  have C := fun c => zspace_any c w
  go_enter Try.func10, Try.ntmps10
  go_wp2
  go_loop [3] (fun i => ∃ k : Nat, k ≤ n ∧ i = .int .i64 k ∧ Hid ((ys.take k).all sp = true)) (fun i => n - (intOf i).toNat)
  case atStart => exact ⟨0, Nat.zero_le _, rfl, by show _ = _; simp⟩
  case round =>
    obtain ⟨k, hk, rfl, HR⟩ := hrel
    by_cases hlt : k < n
    · have hkf : k < ys.length := by omega
      have g1 := HC.out k hkf
      have i1 : (0 : Int) ≤ (k : Int) := by omega
      have i2 : (k : Int) < (n : Int) := by omega
      have C' := C ys[k]
      have S2 : Hid (sp ys[k] = false → false = ys.all sp) := fun h => by
        symm; rw [List.all_eq_false]; exact ⟨ys[k], List.getElem_mem hkf, by simp [h]⟩
      have S3 : Hid (sp ys[k] = true → (ys.take (k + 1)).all sp = true) := fun h => all_take_succ hkf HR.out h
      generalize hf : ys[k] = f at *
      clear hf C
      cases hs : sp f with
      | true =>
        rw [hs] at C'
        go_wp2_with fail
        refine C'.mono ?_
        rintro e w' ⟨rfl, rfl⟩
        go_wp2_with fail
        go_round
        case rel => exact ⟨k + 1, by omega, by go_num, S3.out hs⟩
        case measure => simp [intOf]; omega
      | false =>
        rw [hs] at C'
        go_wp2_with fail
        refine C'.mono ?_
        rintro e w' ⟨rfl, rfl⟩
        go_wp2_with fail
        go_ret
        exact ⟨ret_bool (S2.out hs), rfl⟩
    · have e : k = n := by omega
      subst e
      have hfin : Hid (ys.all sp = true) := by
        have h := HR.out
        rw [List.take_of_length_le (by omega)] at h
        exact h
      go_wp2
      go_ret
      exact ⟨ret_bool hfin.out.symm, rfl⟩

end Go.Proofs.Qxb6623341a
