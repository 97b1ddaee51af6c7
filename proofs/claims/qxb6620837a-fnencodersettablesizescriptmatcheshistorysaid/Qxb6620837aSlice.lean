/-
  A SLICE OF STRINGS CUT FROM j ON: the operation's run, and what lies there.
-/
import Derived.Test.Qxb6620837aIn
namespace Go.Proofs.Qxb6620837a
open Go.RowKit

theorem cells9 : Try.prog.cellsOf 9 = 1 := by kernel_rfl
theorem elem33 : Try.prog.elem 33 = 9 := by kernel_rfl

theorem slice_facts {w : World} {ao : Option Addr} {n c : Nat} {xs : List ByteArray} (hx : xs.length = n) (hc : n ≤ c) (h : StrsAt w ao xs) (j : Nat) (hj : j ≤ n) :
    ∃ a' c', (∀ W, (Instr.sliceAt 33 (.slice ao n c) (some (.int .i64 (j : Int))) none none).run Try.prog W = .ok (.slice a' (n - j) c') W) ∧
      (∀ W, (Instr.slice 33 (.slice ao n c) (some (.int .i64 (j : Int))) none none).run Try.prog W = .ok (.slice a' (n - j) c') W) ∧ StrsAt w a' (xs.drop j) := by
  have ht : Try.prog.underlying 33 = some (.slice (Try.prog.elem 33)) := by rw [elem33]; exact Try.underlying33
  have hs : ∀ W, (sizeOf (Try.prog.elem 33)).run Try.prog W = .ok 1 W := fun W => by
    obtain ⟨i, hi, _⟩ := info_parts Try.info9
    rw [elem33, run_sizeOf W hi, cells9]
  have e2 : ∀ W, (Instr.slice 33 (.slice ao n c) (some (.int .i64 (j : Int))) none none).run Try.prog W = .ok (.slice (if c = j then ao else ao.map (·.add (j * 1))) (n - j) (c - j)) W := fun W => by
    rw [run_slice_l (P := Try.prog) (w := W) 33 ao n c ht .i64 (j : Int) (by omega) (by omega), hs]
    rfl
  refine ⟨if c = j then ao else ao.map (·.add (j * 1)), c - j, fun W => ?_, e2, ?_⟩
  · rw [run_sliceAt_slice W 33 _ _ _ _ ht]
    exact e2 W
  · intro k hk
    rw [List.length_drop] at hk
    obtain ⟨b, o, rfl, _⟩ := h 0 (by omega)
    rw [if_neg (by omega)]
    have := h.drop j k (by rw [List.length_drop]; exact hk)
    have e : (Option.map (fun x : Addr => x.add (j * 1)) (some ⟨b, o, none⟩)) = some ⟨b, o + j, none⟩ := by rw [Option.map_some, Nat.mul_one, Addr.add_lit]
    rw [e]
    exact this

end Go.Proofs.Qxb6620837a
