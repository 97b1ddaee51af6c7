/-
  THE PLAIN LAW: where comma stops, and what lies between.
-/
import Derived.Test.Qxb6623341aComma
namespace Go.Proofs.Qxb6623341a

theorem IsSp.uniq {xs : List Int} {i s t : Nat} (h : IsSp xs i s) (k : IsSp xs i t) : s = t := by
  obtain ⟨a1, a2, a3, a4⟩ := h
  obtain ⟨b1, b2, b3, b4⟩ := k
  rcases Nat.lt_trichotomy s t with h | h | h
  · have e1 := b3 s a1 h
    rw [a4 (by omega)] at e1
    cases e1
  · exact h
  · have e1 := a3 t b1 h
    rw [b4 (by omega)] at e1
    cases e1

theorem IsSep.uniq {xs : List Int} {i r t : Nat} (h : IsSep xs i r) (k : IsSep xs i t) : r = t := by
  obtain ⟨s, h1, h2, h3⟩ := h
  obtain ⟨s', k1, k2, k3⟩ := k
  obtain rfl := h1.uniq k1
  rcases h3 with ⟨e, h3⟩ | ⟨e, rfl⟩
  · rcases k3 with ⟨_, k3⟩ | ⟨e', _⟩
    · exact h3.uniq k3
    · exact absurd e e'
  · rcases k3 with ⟨e', _⟩ | ⟨_, rfl⟩
    · exact absurd e' e
    · rfl

/-- The law's premise. -/
def Dom (xs : List Int) (i : Nat) : Prop :=
  (∃ a b, i ≤ a ∧ a < b ∧ b < xs.length ∧ sp (xs.getD a 0) = false ∧ sp (xs.getD b 0) = false) ∨ (∃ a, i ≤ a ∧ a < xs.length ∧ sp (xs.getD a 0) = false ∧ xs.getD a 0 ≠ 44)

theorem Dom.some {xs : List Int} {i : Nat} (h : Dom xs i) : ∃ k, i ≤ k ∧ k < xs.length ∧ sp (xs.getD k 0) = false := by
  rcases h with ⟨a, b, h1, h2, h3, h4, h5⟩ | ⟨a, h1, h2, h3, h4⟩
  · exact ⟨a, h1, by omega, h4⟩
  · exact ⟨a, h1, h2, h3⟩

theorem IsSp.from {xs : List Int} {i s a : Nat} (h : IsSp xs i s) (h1 : i ≤ a) (h2 : sp (xs.getD a 0) = false) : s ≤ a := by
  apply Nat.le_of_not_lt
  intro hl
  rw [h.2.2.1 a h1 hl] at h2
  cases h2

theorem IsSep.lt {xs : List Int} {i r : Nat} (hd : Dom xs i) (h : IsSep xs i r) : i ≤ r ∧ r < xs.length := by
  obtain ⟨s, h1, h2, ⟨e, h3⟩ | ⟨e, rfl⟩⟩ := h
  · have := h1.1
    have := h3.1
    refine ⟨by omega, ?_⟩
    rcases hd with ⟨a, b, d1, d2, d3, d4, d5⟩ | ⟨a, d1, d2, d3, d4⟩
    · have g1 := h1.from d1 d4
      have g2 := h3.from (a := b) (by omega) d5
      omega
    · have g1 := h1.from d1 d3
      have g3 : a ≠ s := by rintro rfl; exact d4 e
      have g2 := h3.from (a := a) (by omega) d3
      omega
  · exact ⟨h1.1, h2⟩

/-- A later start inside the leading spaces. -/
theorem IsSep.later {xs : List Int} {i r k : Nat} (h : IsSep xs i r) (hk : i ≤ k) (hs : ∀ j, i ≤ j → j < k → sp (xs.getD j 0) = true) : IsSep xs k r ∧ ∃ m, k ≤ m ∧ m < xs.length ∧ sp (xs.getD m 0) = false := by
  obtain ⟨s, h1, h2, h3⟩ := h
  have h4 := h1.2.2.2 h2
  have hks : k ≤ s := by
    apply Nat.le_of_not_lt
    intro hl
    rw [hs s h1.1 hl] at h4
    cases h4
  exact ⟨⟨s, ⟨hks, h1.2.1, fun j a b => h1.2.2.1 j (by omega) b, h1.2.2.2⟩, h2, h3⟩, s, hks, h2, h4⟩

/-- The stretch from i to r. -/
def seg (xs : List Int) (i r : Nat) : List Int := (xs.drop i).take (r - i)

theorem seg_length {xs : List Int} {i r : Nat} (hr : r ≤ xs.length) : (seg xs i r).length = r - i := by simp [seg]; omega

theorem seg_get {xs : List Int} {i r k : Nat} (hk : k < (seg xs i r).length) : (seg xs i r)[k] = xs.getD (i + k) 0 := by
  have h : i + k < xs.length := by simp [seg] at hk; omega
  simp [seg, h]

theorem seg_split {xs : List Int} {i s r : Nat} (h1 : i ≤ s) (h2 : s < r) (h3 : r ≤ xs.length) : seg xs i r = seg xs i s ++ xs.getD s 0 :: seg xs (s + 1) r := by
  have hs : s < xs.length := by omega
  have e1 : r - i = (s - i) + ((r - (s + 1)) + 1) := by omega
  unfold seg
  rw [e1, List.take_add, List.drop_drop, show i + (s - i) = s by omega, List.drop_eq_getElem_cons hs, List.take_succ_cons, getD_lt _ _ hs]

theorem seg_sp {xs : List Int} {i r : Nat} (h : ∀ j, i ≤ j → j < r → sp (xs.getD j 0) = true) : ∀ x ∈ seg xs i r, sp x = true := by
  intro x hx
  obtain ⟨k, hk, rfl⟩ := List.getElem_of_mem hx
  rw [seg_get]
  exact h _ (by omega) (by simp [seg] at hk; omega)

theorem sp44 : sp 44 = false := by decide

theorem seg_c0 {xs : List Int} {i r : Nat} (h : ∀ x ∈ seg xs i r, sp x = true) : (seg xs i r).count 44 = 0 := by
  rw [List.count_eq_zero]
  intro hm
  have := h _ hm
  rw [sp44] at this
  cases this

theorem seg_all {xs : List Int} {i r : Nat} (h : ∀ x ∈ seg xs i r, sp x = true) : (seg xs i r).all (fun b => b == 44 || sp b) = true := by
  rw [List.all_eq_true]
  intro x hx
  simp [h x hx]

theorem seg_allsp {xs : List Int} {i r : Nat} (hr : r ≤ xs.length) (h : (seg xs i r).all sp = true) : ∀ j, i ≤ j → j < r → sp (xs.getD j 0) = true := by
  intro j h1 h2
  rw [List.all_eq_true] at h
  have hl : j - i < (seg xs i r).length := by rw [seg_length hr]; omega
  have := h _ (List.getElem_mem hl)
  rw [seg_get, show i + (j - i) = j by omega] at this
  exact this

theorem IsSep.skips {xs : List Int} {i r : Nat} (hr : r < xs.length) (h : IsSep xs i r) : skipB (seg xs i r) = true := by
  obtain ⟨s, h1, h2, ⟨e, h3⟩ | ⟨e, rfl⟩⟩ := h
  · have a1 := seg_sp h1.2.2.1
    have a2 := seg_sp h3.2.2.1
    have c1 := seg_c0 a1
    have c2 := seg_c0 a2
    have b1 := seg_all a1
    have b2 := seg_all a2
    rw [seg_split h1.1 (by have := h3.1; omega) (by omega), e]
    unfold skipB
    rw [List.all_append, List.count_append, List.all_cons, List.count_cons, b1, b2, c1, c2]
    rfl
  · have a1 := seg_sp h1.2.2.1
    have c1 := seg_c0 a1
    have b1 := seg_all a1
    unfold skipB
    rw [b1, c1]
    rfl

theorem IsSep.stops {xs : List Int} {i r : Nat} (hr : r < xs.length) (h : IsSep xs i r) : skipB (seg xs i (r + 1)) = false := by
  have stop : i ≤ r → xs.getD r 0 ≠ 44 → sp (xs.getD r 0) = false → skipB (seg xs i (r + 1)) = false := by
    intro h0 h1 h2
    have hl : r - i < (seg xs i (r + 1)).length := by rw [seg_length (by omega)]; omega
    have e : (seg xs i (r + 1))[r - i] = xs.getD r 0 := by rw [seg_get, show i + (r - i) = r by omega]
    exact (skipB_stop _ (r - i) hl (by rw [e]; exact h1) (by rw [e]; exact h2)).symm
  obtain ⟨s, h1, h2, ⟨e, h3⟩ | ⟨e, rfl⟩⟩ := h
  · have hs := h1.1
    have hs2 := h3.1
    by_cases h44 : xs.getD r 0 = 44
    · have e1 : seg xs i (r + 1) = seg xs i r ++ [xs.getD r 0] := by
        rw [seg_split (s := r) (by omega) (by omega) (by omega)]
        simp [seg]
      rw [seg_split (s := s) (r := r) hs (by omega) (by omega), e] at e1
      rw [e1, h44]
      unfold skipB
      rw [Bool.and_eq_false_iff]
      right
      rw [decide_eq_false_iff_not]
      simp only [List.count_append, List.count_cons, List.count_nil, beq_self_eq_true, if_true]
      omega
    · exact stop (by omega) h44 (h3.2.2.2 hr)
  · exact stop h1.1 e (h1.2.2.2 h2)

end Go.Proofs.Qxb6623341a
