/-
  THE WALKS: zzBytes_FnAppendIntegerAppendsShortestEncodingOfV (9), zzCloneBytes (11).
-/
import Derived.Test.Qxb6620837aApp
import Derived.Laws.CopyOwn
import Derived.Deep.OwnRows
namespace Go.Proofs.Qxb6620837a
open Go.RowKit

theorem bytes9_any (ao : Option Addr) (n cap : Nat) (x y z : Value) (hm : n ≤ maxLen) (w : World) :
    Calls Try.prog 9 #[.slice ao n cap, x, y, z] w fun e w' => e = .returned (.bool (decide (n ≤ 1048576))) ∧ w' = w := by
  unfold maxLen at hm
  by_cases h : n ≤ 1048576
  · rw [decide_eq_true h]
    go_enter Try.func9, Try.ntmps9
    go_wp2
    go_ret
    exact ⟨rfl, rfl⟩
  · rw [decide_eq_false h]
    go_enter Try.func9, Try.ntmps9
    go_wp2
    go_ret
    exact ⟨rfl, rfl⟩

theorem Try.size5 : (Try.prog.info? 5).map (·.size) = some 1 := by kernel_rfl

theorem splice_all {α : Type} (L cs : List α) (h : L.length = cs.length) : splice L 0 cs = cs := by
  unfold splice
  simp [List.drop_eq_nil_of_le (show L.length ≤ cs.length by omega)]

theorem clone_any (ao : Option Addr) (n cap : Nat) (xs : List Int) (hx : xs.length = n) (hn : n ≤ 1048576) (w : World) (hnil : ao = none → n = 0 ∧ cap = 0) (hb : BytesAt w ao xs) :
    Calls Try.prog 11 #[.slice ao n cap] w fun e w' => ∃ v, e = .returned v ∧ w'.ownsRow w.heap.size 5 1 v n (xs.map (Value.int .u8)) ∧ Below w.heap.size w w' := by
  cases ao with
  | none =>
    obtain ⟨rfl, rfl⟩ := hnil rfl
    obtain rfl := List.eq_nil_of_length_eq_zero hx
    have hq : ∀ W, (binOp .eql 22 (.slice none 0 0) (.slice none 0 0)).run Try.prog W = .ok (.bool true) W := fun W => by
      simpa using Lib.run_eql_slice_nil (P := Try.prog) W 22 5 none 0 0 0 0 Try.underlying22
    go_enter Try.func11, Try.ntmps11
    go_wp2
    go_ret
    exact ⟨_, rfl, World.ownsRow_nil _ _ _ _, Below.refl _ _⟩
  | some a =>
    clear hnil
    have hq : ∀ W, (binOp .eql 22 (.slice (some a) n cap) (.slice none 0 0)).run Try.prog W = .ok (.bool false) W := fun W => by
      simpa using Lib.run_eql_slice_nil (P := Try.prog) W 22 5 (some a) n cap 0 0 Try.underlying22
    have hmk := run_make_row' (P := Try.prog) 22 5 (.int .u8 0) 1 Try.underlying22 Try.info5 rfl .i64 .i64 n (by omega) (by omega)
    obtain ⟨cs, hcs⟩ : ∃ cs : List Value, cs = xs.map (Value.int .u8) := ⟨_, rfl⟩
    have hlen : cs.length = n := by rw [hcs]; simpa using hx
    have HC : Hid (cs = xs.map (Value.int .u8)) := hcs
    have HL : Hid (cs.length = n) := hlen
    have h1 : ∀ v ∈ cs, v.oneCell' = true := by rw [hcs]; exact ints_oneCell _ _
    have H1 : Hid (∀ v ∈ cs, v.oneCell' = true) := h1
    obtain ⟨mc, hmc⟩ : ∃ mc : List Value, mc.toArray = madeCells #[.int .u8 0] n := ⟨(madeCells #[.int .u8 0] n).toList, by simp⟩
    have hml : mc.length = n := by have := congrArg Array.size hmc; rw [size_madeCells] at this; simpa using this
    rw [← hmc] at hmk
    have HML : Hid (mc.length = n) := hml
    have HS : Hid (0 < cs.length → ∃ ad, some a = some ad ∧ ∀ j v, cs[j]? = some v → (w.alloc (.cells mc.toArray 5)).cell? (ad.add j) = some v) := by
      intro h0
      refine ⟨a, rfl, fun j v hj => ?_⟩
      have hjl : j < xs.length := by have := (List.getElem?_eq_some_iff.1 hj).1; omega
      obtain ⟨b, o, e, hc⟩ := hb j hjl
      obtain rfl := Option.some.inj e
      refine cell_later ((Below.refl _ _).alloc (Nat.le_refl _) _) ?_
      rw [Addr.add_lit, hc, ← hj, hcs]
      simp [hjl]
    clear hcs hlen h1 hmc hml hb
    go_enter Try.func11, Try.ntmps11
    go_wp2_with (refine wpList_copy_splice (by rfl) (.tmp 9) (.tmp 10) 22 22 (by rfl) 5 Try.underlying22 Try.size5 _ _ _ _ _ _ (by rfl) (by rfl) w.heap.size 0 mc 5 (heap_alloc_new w _) cs (by rw [HL.out]; exact (Nat.min_self n).symm) (fun h => ⟨rfl, HS.out h⟩) (by rw [HL.out, HML.out]; omega) H1.out w.heap.size w ((Below.refl _ _).alloc (Nat.le_refl _) _) (Nat.le_refl _) ?_; intro w' hg' hb')
    go_ret
    have hg := hg'.out
    rw [splice_all mc cs (by rw [HL.out, HML.out])] at hg
    refine ⟨_, rfl, ⟨by simpa using hx, .inr ⟨w.heap.size, n, cs.toArray, rfl, Nat.le_refl _, hg, Nat.le_refl _, by unfold maxLen; omega, by simpa using HL.out, ?_⟩⟩, hb'⟩
    rw [HC.out]
    exact List.take_of_length_le (by simp; omega)

end Go.Proofs.Qxb6620837a
