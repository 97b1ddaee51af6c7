/-
  THE WALKS: appendInteger (36), ZZAppendInteger (12), zzHasProperPrefix (15).
-/
import Derived.Test.Qxb6620837aBytes
import Derived.Test.Qxb6620837aBits
namespace Go.Proofs.Qxb6620837a
open Go.RowKit

theorem Try.info5 : (Try.prog.info? 5).map (fun i => (i.zero, i.size, i.bytes)) = some (some (.int .u8 0), 1, 1) := by kernel_rfl

/-- Blocks that were there are as they were, but for the row 'r'; and the value v lies in that row or in a new one. -/
def Grew (w w' : World) (r : Option Nat) (v : Value) : Prop := w.grownBy w' r ∧ (v.ownBlock = r ∨ ∃ g, v.ownBlock = some g ∧ w.heap.size ≤ g)

theorem Grew.next {w wr w2 : World} {r : Option Nat} {v v' : Value} (h : Grew w wr r v) (o : Obj) (hg : (wr.alloc o).grownBy w2 v.ownBlock) (hat : v'.ownBlock = v.ownBlock ∨ v'.ownBlock = some (wr.alloc o).heap.size) : Grew w w2 r v' := by
  obtain ⟨⟨a1, a2, a3, a4, a5⟩, h2⟩ := h
  refine ⟨⟨hg.os.trans a1, hg.tape.trans a2, hg.output.trans a3, ?_, fun k hk hne => ?_⟩, ?_⟩
  · have := hg.size; simp at this; omega
  · rw [hg.block k (by simp; omega) (by
      rcases h2 with h2 | ⟨g, h2, h3⟩
      · rwa [h2]
      · rw [h2]; intro e; have := Option.some.inj e; omega)]
    rw [Below.heap_alloc _ _ _ (by omega)]
    exact a5 k hk hne
  · rcases hat with hat | hat
    · rcases h2 with h2 | ⟨g, h2, h3⟩
      · exact .inl (hat.trans h2)
      · exact .inr ⟨g, hat.trans h2, h3⟩
    · exact .inr ⟨_, hat, by simp; omega⟩

theorem one_cell (x : Int) : ∀ u ∈ [Value.int .u8 x], u.oneCell' = true := by
  intro u hu; simp at hu; subst hu; rfl

open Enc in
set_option maxRecDepth 100000 in
set_option maxHeartbeats 400000 in
theorem app_any (base n : Nat) (v : Value) (xs : List Int) (F p ones V : Nat) (h1 : 1 ≤ ones) (h8 : ones ≤ 255) (hP : (2 : Int) ^ p = (ones : Int) + 1) (hp : p ≤ 8) (hV : V < 18446744073709551616)
    (hor : ∀ x : Nat, x ≤ ones → bits BinOp.or IntKind.u8 (F : Int) (x : Int) = ((F + x : Nat) : Int)) (w : World) (hn : n ≤ 1073741824)
    (hown : w.ownsRow base 5 1 v n (xs.map (Value.int .u8))) (hbase : base ≤ w.heap.size) :
    Calls Try.prog 36 #[v, .int .u8 F, .int .u64 (p : Int), .int .u64 (V : Int)] w fun e w' => ∃ v', e = .returned v' ∧ w'.ownsRow base 5 1 v' (n + (enc F ones V).length) ((xs ++ enc F ones V).map (Value.int .u8)) ∧ Grew w w' v.ownBlock v' := by
  obtain ⟨i0, hi, hz0, hz1, hz2⟩ := info_parts Try.info5
  by_cases hlt : V < ones
  · have hV' : V ≤ ones := by omega
    have ho := hor V hV'
    have em : (V : Int) % 256 = (V : Int) := by omega
    have hlt' : (V : Int) < (ones : Int) := by omega
    have HO : Hid (∀ x : Nat, x ≤ ones → bits BinOp.or IntKind.u8 (F : Int) (x : Int) = ((F + x : Nat) : Int)) := hor
    clear hor
    have m1 : n + 1 ≤ maxLen := by unfold maxLen; omega
    go_enter Try.func36, Try.ntmps36
    go_wp2_with (at_builtin; refine wpList_append_own_at _ (by rfl) (.tmp 16) (.tmp 21) 22 (by rfl) base 5 i0 (.int .u8 0) 1 1 Try.underlying22 hi hz0 hz1 hz2 rfl (by decide) _ _ _ (by rfl) (hown.alloc _) ⟨w.heap.size, 0, none⟩ 1 1 [.int .u8 ((F + V : Nat) : Int)] (by rfl) rfl (cell_one_new _ _ _) (one_cell _) m1 (by omega) (by simp; omega) ?_; intro v' w1 hown1 hgrow1 _ hat1)
    go_ret
    refine ⟨_, rfl, ?_, Grew.next ⟨World.grownBy.refl _ _, .inl rfl⟩ _ hgrow1 hat1⟩
    rw [enc, if_pos hlt]
    simpa using hown1
  · have ho := hor ones (Nat.le_refl _)
    have em : (ones : Int) % 256 = (ones : Int) := by omega
    have hge : (ones : Int) ≤ (V : Int) := by omega
    clear hor
    have m1 : n + 1 ≤ maxLen := by unfold maxLen; omega
    go_enter Try.func36, Try.ntmps36
    go_wp2_with (at_builtin; refine wpList_append_own_at _ (by rfl) (.tmp 23) (.tmp 28) 22 (by rfl) base 5 i0 (.int .u8 0) 1 1 Try.underlying22 hi hz0 hz1 hz2 rfl (by decide) _ _ _ (by rfl) (hown.alloc _) ⟨w.heap.size, 0, none⟩ 1 1 [.int .u8 ((F + ones : Nat) : Int)] (by rfl) rfl (cell_one_new _ _ _) (one_cell _) m1 (by omega) (by simp; omega) ?_; intro v' w1 hown1 hgrow1 _ hat1)
    have hG := Grew.next ⟨World.grownBy.refl _ _, .inl rfl⟩ _ hgrow1 hat1
    clear hgrow1 hat1 hown ho em
    go_loopw [0, 3] (fun s u wr => ∃ (f U : Nat) (ys : List Int), u = .int .u64 U ∧ U < 128 * 128 ^ f ∧ Enc.digs 9 (V - ones) = ys ++ Enc.digs f U ∧
        wr.ownsRow base 5 1 s (n + 1 + ys.length) ((xs ++ [((F + ones : Nat) : Int)] ++ ys).map (Value.int .u8)) ∧ Grew w wr v.ownBlock s) (fun _ u _ => (intOf u).toNat)
    case atStart => exact ⟨9, V - ones, [], by congr 1; omega, by omega, rfl, by simpa using hown1, hG⟩
    case round =>
      obtain ⟨f, U, ys, rfl, hU, hD, hownr, hGr⟩ := hrel
      have hyl : ys.length ≤ 9 := by
        have a := Enc.digs_length_le 9 (V - ones)
        have b := Enc.digs_length_pos f U
        rw [hD, List.length_append] at a
        omega
      have HD : Hid (Enc.digs 9 (V - ones) = ys ++ Enc.digs f U) := hD
      clear hD hown1 hG
      have HU : Hid (U < 128 * 128 ^ f) := hU
      clear hU
      have m2 : n + 1 + ys.length + 1 ≤ maxLen := by unfold maxLen; omega
      have hbr : base ≤ wr.heap.size := by have := hGr.1.size; omega
      by_cases hbig : 128 ≤ U
      · have ho := Enc.or_128 U
        go_wp2_with (at_builtin; refine wpList_append_own_at _ (by rfl) (.tmp 37) (.tmp 41) 22 (by rfl) base 5 i0 (.int .u8 0) 1 1 Try.underlying22 hi hz0 hz1 hz2 rfl (by decide) _ _ _ (by rfl) (hownr.alloc _) ⟨wr.heap.size, 0, none⟩ 1 1 [.int .u8 ((U % 128 + 128 : Nat) : Int)] (by rfl) rfl (cell_one_new _ _ _) (one_cell _) m2 (by omega) (by simp; omega) ?_; intro v2 w2 hown2 hgrow2 _ hat2)
        have hG2 := hGr.next _ hgrow2 hat2
        obtain ⟨f', rfl⟩ : ∃ f', f = f' + 1 := by
          cases f with
          | zero => have := HU.out; omega
          | succ f' => exact ⟨f', rfl⟩
        have hU' : U / 128 < 128 * 128 ^ f' := by
          have h := HU.out
          have e : 128 * 128 ^ (f' + 1) = (128 * 128 ^ f') * 128 := by rw [Nat.pow_succ]; omega
          omega
        go_roundw
        case rel =>
          refine ⟨f', U / 128, ys ++ [((U % 128 + 128 : Nat) : Int)], by simp, hU', ?_, ?_, hG2⟩
          · rw [HD.out, Enc.digs_big _ _ hbig]; simp
          · simpa [Nat.add_assoc] using hown2
        case measure => simp [intOf]; omega
      · go_wp2_with (at_builtin; refine wpList_append_own_at _ (by rfl) (.tmp 43) (.tmp 46) 22 (by rfl) base 5 i0 (.int .u8 0) 1 1 Try.underlying22 hi hz0 hz1 hz2 rfl (by decide) _ _ _ (by rfl) (hownr.alloc _) ⟨wr.heap.size, 0, none⟩ 1 1 [.int .u8 ((U : Nat) : Int)] (by rfl) rfl (cell_one_new _ _ _) (one_cell _) m2 (by omega) (by simp; omega) ?_; intro v2 w2 hown2 hgrow2 _ hat2)
        have hG2 := hGr.next _ hgrow2 hat2
        go_ret
        refine ⟨_, rfl, ?_, hG2⟩
        rw [enc, if_neg hlt, HD.out, Enc.digs_small _ _ (by omega)]
        simpa [Nat.add_assoc, Nat.add_comm, Nat.add_left_comm] using hown2

open Enc in
theorem zapp_any (base n : Nat) (v : Value) (xs : List Int) (F p ones V : Nat) (h1 : 1 ≤ ones) (h8 : ones ≤ 255) (hP : (2 : Int) ^ p = (ones : Int) + 1) (hp : p ≤ 8) (hV : V < 18446744073709551616)
    (hor : ∀ x : Nat, x ≤ ones → bits BinOp.or IntKind.u8 (F : Int) (x : Int) = ((F + x : Nat) : Int)) (w : World) (hn : n ≤ 1073741824)
    (hown : w.ownsRow base 5 1 v n (xs.map (Value.int .u8))) (hbase : base ≤ w.heap.size) :
    Calls Try.prog 12 #[v, .int .u8 F, .int .u64 (p : Int), .int .u64 (V : Int)] w fun e w' => ∃ v', e = .returned v' ∧ w'.ownsRow base 5 1 v' (n + (enc F ones V).length) ((xs ++ enc F ones V).map (Value.int .u8)) ∧ Grew w w' v.ownBlock v' := by
  have C := app_any base n v xs F p ones V h1 h8 hP hp hV hor w hn hown hbase
  have HC := C
  clear C hor hown
  go_enter Try.func12, Try.ntmps12
  go_wp2_with (go_at_call 36; refine HC.mono ?_; rintro e w' ⟨v', rfl, ho, hg⟩)
  go_ret
  exact ⟨_, rfl, ho, hg⟩

set_option maxHeartbeats 400000 in
theorem hasp_any (ao bo : Option Addr) (la lb ca cb : Nat) (xs ys : List Int) (hx : xs.length = la) (hy : ys.length = lb) (w : World) (hca : la ≤ ca) (hm : la ≤ maxLen) (hm' : lb ≤ maxLen)
    (h1 : BytesAt w ao xs) (h2 : BytesAt w bo ys) :
    Calls Try.prog 15 #[.slice ao la ca, .slice bo lb cb] w fun e w' => e = .returned (.bool (decide (lb < la ∧ xs.take lb = ys))) ∧ ∃ q, w' = w.drewN q := by
  by_cases hl : lb < la
  · obtain ⟨b1, o1, rfl, _⟩ := h1 0 (by omega)
    have ht : BytesAt w (some ⟨b1, o1, none⟩) (xs.take lb) := by
      intro i hi
      simp at hi
      obtain ⟨b, o, e, hc⟩ := h1 i (by omega)
      simp at e
      obtain ⟨rfl, rfl⟩ := e
      refine ⟨_, _, rfl, ?_⟩
      rw [hc, getD_lt _ _ (by omega), getD_lt _ _ (by simp; omega)]
      simp
    have hl' : (lb : Int) < (la : Int) := by omega
    have hm1 : la ≤ 9223372036854775807 := hm
    have C := same_any (some ⟨b1, o1, none⟩) bo lb lb ca cb (xs.take lb) ys (by simp; omega) hy w hm' hm' ht h2
    go_enter Try.func15, Try.ntmps15
    go_wp2_with (go_at_call 13; refine C.mono ?_; rintro e w' ⟨rfl, q, rfl⟩)
    go_ret
    exact ⟨ret_bool (by simp [hl]), q, rfl⟩
  · have hl' : ¬ (lb : Int) < (la : Int) := by omega
    have hd : decide (lb < la ∧ xs.take lb = ys) = false := decide_eq_false fun h => hl h.1
    rw [hd]
    go_enter Try.func15, Try.ntmps15
    go_wp2_with fail
    go_ret
    exact ⟨rfl, 0, rfl⟩

end Go.Proofs.Qxb6620837a
