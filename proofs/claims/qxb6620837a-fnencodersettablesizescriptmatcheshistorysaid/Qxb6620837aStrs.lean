/-
  THE WALKS of the functions that read slices of strings: zzEntrySize (23), zzSameStrings (26), zzFieldsSize (27).
-/
import Derived.Test.Qxb6620837aBytes
import Derived.Test.Qxb6620837aWin
namespace Go.Proofs.Qxb6620837a
open Go.RowKit

/-- What is known of a slice of strings. -/
def StrsAt (w : World) (ao : Option Addr) (xs : List ByteArray) : Prop :=
  ∀ i, i < xs.length → ∃ b o, ao = some ⟨b, o, none⟩ ∧ w.cell? ⟨b, o + i, none⟩ = some (.string (xs.getD i ByteArray.empty))

theorem StrsAt.at {w : World} {ao : Option Addr} {xs : List ByteArray} (h : StrsAt w ao xs) (h0 : 0 < xs.length) :
    ∃ b o, ao = some ⟨b, o, none⟩ ∧ ∀ i, i < xs.length → w.cell? ⟨b, o + i, none⟩ = some (.string (xs.getD i ByteArray.empty)) := by
  obtain ⟨b, o, rfl, _⟩ := h 0 h0
  refine ⟨b, o, rfl, fun i hi => ?_⟩
  obtain ⟨b', o', e, hc⟩ := h i hi
  simp at e
  obtain ⟨rfl, rfl⟩ := e
  exact hc

theorem StrsAt.drewN {w : World} {ao : Option Addr} {xs : List ByteArray} (h : StrsAt w ao xs) (q : Nat) : StrsAt (w.drewN q) ao xs := by
  intro i hi
  obtain ⟨b, o, e, hc⟩ := h i hi
  exact ⟨b, o, e, by simpa using hc⟩

theorem StrsAt.below {w w' : World} {ao : Option Addr} {xs : List ByteArray} (h : StrsAt w ao xs) (hb : Below w.heap.size w w') : StrsAt w' ao xs := by
  intro i hi
  obtain ⟨b, o, e, hc⟩ := h i hi
  exact ⟨b, o, e, cell_later hb hc⟩

/-- It returned a bool. (A definition of its own, so that the walk's simp leaves it standing.) -/
def IsBool (e : Ending) : Prop := ∃ b, e = .returned (.bool b)
theorem isBool_mk (b : Bool) : IsBool (.returned (.bool b)) := ⟨b, rfl⟩

/-- zzEntrySize -/
theorem entry_any (a b : ByteArray) (ha : a.size ≤ 4194304) (hb : b.size ≤ 4194304) (w : World) :
    Calls Try.prog 23 #[.string a, .string b] w fun e w' => e = .returned (.int .u64 ((Win.w1 (a, b) : Nat) : Int)) ∧ w' = w := by
  have e : ((Win.w1 (a, b) : Nat) : Int) = (a.size : Int) + b.size + 32 := by simp [Win.w1]
  rw [e]
  clear e
  go_enter Try.func23, Try.ntmps23
  go_wp2
  go_ret
  exact ⟨rfl, rfl⟩

theorem getS_lt (xs : List ByteArray) (k : Nat) (h : k < xs.length) : xs.getD k ByteArray.empty = xs[k] := by simp [h]

theorem str_eq {a b : ByteArray} (h : (!a.toList == b.toList) = false) : a = b := by
  have h' : a.toList = b.toList := by simpa using h
  rw [ByteArray.toList_eq, ByteArray.toList_eq] at h'
  cases a; cases b
  simp at h'
  rw [h']

theorem nes_of_at (xs ys : List ByteArray) (k : Nat) (h1 : k < xs.length) (h2 : k < ys.length) (h : (!xs[k].toList == ys[k].toList) = true) : false = decide (xs = ys) := by
  symm
  rw [decide_eq_false_iff_not]
  rintro rfl
  simp at h

theorem eqs_of_all (xs ys : List ByteArray) (n : Nat) (h1 : xs.length = n) (h2 : ys.length = n) (h : ∀ j, j < n → xs.getD j ByteArray.empty = ys.getD j ByteArray.empty) : xs = ys := by
  refine List.ext_getElem (by omega) fun i a b => ?_
  have := h i (by omega)
  rwa [getS_lt _ _ a, getS_lt _ _ b] at this

set_option maxHeartbeats 400000 in
theorem sames_core (b1 o1 b2 o2 n ca cb : Nat) (xs ys : List ByteArray) (hx : xs.length = n) (hy : ys.length = n) (w : World) (hm : n ≤ 9223372036854775807)
    (h1 : ∀ i, i < n → w.cell? ⟨b1, o1 + i, none⟩ = some (.string (xs.getD i ByteArray.empty))) (h2 : ∀ i, i < n → w.cell? ⟨b2, o2 + i, none⟩ = some (.string (ys.getD i ByteArray.empty))) :
    Calls Try.prog 26 #[.slice (some ⟨b1, o1, none⟩) n ca, .slice (some ⟨b2, o2, none⟩) n cb] w fun e w' => e = .returned (.bool (decide (xs = ys))) ∧ ∃ q, w' = w.drewN q := by
  go_enter Try.func26, Try.ntmps26
  go_wp2
  go_loopw [5] (fun i wr => ∃ k q : Nat, k ≤ n ∧ i = .int .i64 k ∧ wr = w.drewN q ∧ ∀ j, j < k → xs.getD j ByteArray.empty = ys.getD j ByteArray.empty) (fun i _ => n - (intOf i).toNat)
  case atStart => exact ⟨0, 0, Nat.zero_le _, rfl, rfl, fun j hj => by omega⟩
  case round =>
    obtain ⟨k, q, hk, rfl, rfl, heq⟩ := hrel
    have HE : Hid (∀ j, j < k → xs.getD j ByteArray.empty = ys.getD j ByteArray.empty) := heq
    clear heq
    by_cases hlt : k < n
    · have g1 := h1 k hlt
      have g2 := h2 k hlt
      have i1 : (0 : Int) ≤ (k : Int) := by omega
      have i2 : (k : Int) < (n : Int) := by omega
      go_wp2
      go_quiet (fail)
      go_wp2
      · go_ret
        exact ⟨ret_bool (nes_of_at xs ys k (by omega) (by omega) (by assumption)), q + nq, by simp⟩
      · go_round
        case rel => exact ⟨k + 1, _, by omega, by go_num, rfl, upto_succ HE.out (by
          have h : (!xs[k].toList == ys[k].toList) = false := by assumption
          rw [getS_lt _ _ (by omega), getS_lt _ _ (by omega)]
          exact str_eq h)⟩
        case measure => simp [intOf]; omega
    · go_wp2
      go_ret
      have e : k = n := by omega
      subst e
      exact ⟨ret_bool (decide_eq_true (eqs_of_all xs ys _ hx hy HE.out)).symm, q, rfl⟩

/-- zzSameStrings -/
theorem sames_any (ao bo : Option Addr) (la lb ca cb : Nat) (xs ys : List ByteArray) (hx : xs.length = la) (hy : ys.length = lb) (w : World) (hm : la ≤ maxLen) (hm' : lb ≤ maxLen)
    (h1 : StrsAt w ao xs) (h2 : StrsAt w bo ys) :
    Calls Try.prog 26 #[.slice ao la ca, .slice bo lb cb] w fun e w' => e = .returned (.bool (decide (xs = ys))) ∧ ∃ q, w' = w.drewN q := by
  unfold maxLen at hm hm'
  by_cases hl : la = lb
  · subst hl
    by_cases h0 : la = 0
    · subst h0
      obtain rfl := List.eq_nil_of_length_eq_zero hx
      obtain rfl := List.eq_nil_of_length_eq_zero hy
      rw [decide_eq_true rfl]
      go_enter Try.func26, Try.ntmps26
      go_wp2
      refine wp_loop_rounds 1 ?_; rw [rounds_succ]
      go_wp2
      go_ret
      exact ⟨rfl, 0, rfl⟩
    · obtain ⟨b1, o1, rfl, c1⟩ := h1.at (by omega)
      obtain ⟨b2, o2, rfl, c2⟩ := h2.at (by omega)
      rw [hx] at c1
      rw [hy] at c2
      exact sames_core b1 o1 b2 o2 la ca cb xs ys hx hy w hm c1 c2
  · have hne : xs ≠ ys := by rintro rfl; omega
    have hb : ((la : Int) != (lb : Int)) = true := by rw [bne_iff_ne]; omega
    rw [decide_eq_false hne]
    go_enter Try.func26, Try.ntmps26
    go_wp2
    go_ret
    exact ⟨rfl, 0, rfl⟩

/-- A callee that draws nothing, met in a region whose world has drawn q times already. -/
theorem quiet2 {P : Program} {f : FuncId} {args : Array Value} {w : World} {q n : Nat} {v : Value}
    (h : Calls P f args (w.drewN (q + n)) fun e w' => e = .returned v ∧ w' = w.drewN (q + n)) : Calls P f args (w.drewN (q + n)) fun e w'' => e = .returned v ∧ ∃ m, w'' = w.drewN (q + m) :=
  h.mono fun _ _ ⟨he, hm⟩ => ⟨he, n, hm⟩

open Win in
set_option maxHeartbeats 400000 in
theorem fsize_core (b1 o1 b2 o2 n ca cb : Nat) (fs : List Fld) (hx : fs.length = n) (hw : wt fs ≤ 4194304) (w : World) (hm : n ≤ 9223372036854775807)
    (h1 : ∀ i (h : i < fs.length), w.cell? ⟨b1, o1 + i, none⟩ = some (.string fs[i].1)) (h2 : ∀ i (h : i < fs.length), w.cell? ⟨b2, o2 + i, none⟩ = some (.string fs[i].2)) :
    Calls Try.prog 27 #[.slice (some ⟨b1, o1, none⟩) n ca, .slice (some ⟨b2, o2, none⟩) n cb] w fun e w' => e = .returned (.int .u64 ((wt fs : Nat) : Int)) ∧ ∃ q, w' = w.drewN q := by
  go_enter Try.func27, Try.ntmps27
  go_wp2
  go_loopw [5, 6] (fun s i wr => ∃ k q : Nat, k ≤ n ∧ i = .int .i64 k ∧ wr = w.drewN q ∧ s = .int .u64 ((wt (fs.take k) : Nat) : Int)) (fun _ i _ => n - (intOf i).toNat)
  case atStart => exact ⟨0, 0, Nat.zero_le _, rfl, rfl, rfl⟩
  case round =>
    obtain ⟨k, q, hk, rfl, rfl, rfl⟩ := hrel
    have hs := wt_take_le fs k
    by_cases hlt : k < n
    · have hkf : k < fs.length := by omega
      have g1 := h1 k hkf
      have g2 := h2 k hkf
      have hsucc := wt_take_succ fs k hkf
      have hle := w1_le_wt fs k hkf
      have hle2 := wt_take_le fs (k + 1)
      have HS : Hid (wt (fs.take (k + 1)) = wt (fs.take k) + w1 fs[k]) := hsucc
      generalize hf : fs[k] = f at *
      obtain ⟨a, b⟩ := f
      have ha : a.size ≤ 4194304 := by simp only [w1] at hle; omega
      have hb : b.size ≤ 4194304 := by simp only [w1] at hle; omega
      have CE := fun w => entry_any a b ha hb w
      have hbd : wt (fs.take k) + w1 (a, b) ≤ 4194304 := by omega
      clear hsucc hf hle2 h1 h2
      generalize wt (fs.take k) = s0 at *
      generalize hw1 : w1 (a, b) = x at *
      clear hw1
      have i1 : (0 : Int) ≤ (k : Int) := by omega
      have i2 : (k : Int) < (n : Int) := by omega
      go_wp2
      go_quiet ((go_at_call 23; exact quiet2 (CE _)))
      go_wp2
      go_round
      case rel => exact ⟨k + 1, _, by omega, by go_num, rfl, by rw [HS.out]; go_num⟩
      case measure => simp [intOf]; omega
    · go_wp2
      go_ret
      exact ⟨by rw [List.take_of_length_le (by omega)]; rfl, q, rfl⟩

open Win in
/-- zzFieldsSize, both slices of one length -/
theorem fsize_any (ao bo : Option Addr) (n ca cb : Nat) (fs : List Fld) (hx : fs.length = n) (hw : wt fs ≤ 4194304) (w : World) (hm : n ≤ maxLen)
    (h1 : StrsAt w ao (fs.map Prod.fst)) (h2 : StrsAt w bo (fs.map Prod.snd)) :
    Calls Try.prog 27 #[.slice ao n ca, .slice bo n cb] w fun e w' => e = .returned (.int .u64 ((wt fs : Nat) : Int)) ∧ ∃ q, w' = w.drewN q := by
  unfold maxLen at hm
  by_cases h0 : n = 0
  · subst h0
    obtain rfl := List.eq_nil_of_length_eq_zero hx
    show Calls _ _ _ _ fun e w' => e = .returned (.int .u64 0) ∧ ∃ q, w' = w.drewN q
    go_enter Try.func27, Try.ntmps27
    go_wp2
    refine wp_loop_rounds 1 ?_; rw [rounds_succ]
    go_wp2
    go_ret
    exact ⟨rfl, 0, rfl⟩
  · obtain ⟨b1, o1, rfl, c1⟩ := h1.at (by simp; omega)
    obtain ⟨b2, o2, rfl, c2⟩ := h2.at (by simp; omega)
    exact fsize_core b1 o1 b2 o2 n ca cb fs hx hw w hm (fun i h => by simpa [h] using c1 i (by simpa using h)) (fun i h => by simpa [h] using c2 i (by simpa using h))

end Go.Proofs.Qxb6620837a
