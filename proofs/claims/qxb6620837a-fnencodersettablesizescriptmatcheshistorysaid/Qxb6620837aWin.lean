/-
  PLAIN: header fields, their weights, and the window of the newest that fit; no Go in sight.
-/
namespace Go.Proofs.Qxb6620837a.Win

/-- A header field: its name and its value. -/
abbrev Fld : Type := ByteArray × ByteArray

/-- RFC 7541, 4.1. -/
def w1 (f : Fld) : Nat := f.1.size + f.2.size + 32

/-- The weight of a run of fields. -/
def wt : List Fld → Nat
  | [] => 0
  | f :: r => w1 f + wt r

theorem wt_append (a b : List Fld) : wt (a ++ b) = wt a + wt b := by
  induction a with
  | nil => simp [wt]
  | cons f r ih => simp only [List.cons_append, wt, ih]; omega

theorem wt_drop_le (l : List Fld) (i : Nat) : wt (l.drop i) ≤ wt l := by
  have := wt_append (l.take i) (l.drop i)
  rw [List.take_append_drop] at this
  omega

theorem wt_drop_anti (l : List Fld) (i j : Nat) (h : i ≤ j) : wt (l.drop j) ≤ wt (l.drop i) := by
  have := wt_drop_le (l.drop i) (j - i)
  rw [List.drop_drop] at this
  rwa [show i + (j - i) = j from by omega] at this

theorem wt_drop_succ (l : List Fld) (i : Nat) (h : i < l.length) : wt (l.drop i) = w1 l[i] + wt (l.drop (i + 1)) := by
  rw [List.drop_eq_getElem_cons h, wt]

theorem wt_take_succ (l : List Fld) (i : Nat) (h : i < l.length) : wt (l.take (i + 1)) = wt (l.take i) + w1 l[i] := by
  rw [List.take_succ_eq_append_getElem h, wt_append]
  simp [wt]

theorem wt_take_le (l : List Fld) (i : Nat) : wt (l.take i) ≤ wt l := by
  have := wt_append (l.take i) (l.drop i)
  rw [List.take_append_drop] at this
  omega

theorem w1_le_wt (l : List Fld) (i : Nat) (h : i < l.length) : w1 l[i] ≤ wt l := by
  have := wt_drop_succ l i h
  have := wt_drop_le l i
  omega

/-- i is where the longest run of the newest that weighs at most 'lim' begins. -/
def IsWin (l : List Fld) (lim i : Nat) : Prop := i ≤ l.length ∧ wt (l.drop i) ≤ lim ∧ (0 < i → lim < wt (l.drop (i - 1)))

theorem IsWin.uniq {l : List Fld} {lim i j : Nat} (h : IsWin l lim i) (k : IsWin l lim j) : i = j := by
  obtain ⟨_, a2, a3⟩ := h
  obtain ⟨_, b2, b3⟩ := k
  rcases Nat.lt_trichotomy i j with h | h | h
  · have := b3 (by omega)
    have := wt_drop_anti l i (j - 1) (by omega)
    omega
  · exact h
  · have := a3 (by omega)
    have := wt_drop_anti l j (i - 1) (by omega)
    omega

theorem IsWin.zero {l : List Fld} {lim : Nat} (h : wt l ≤ lim) : IsWin l lim 0 := ⟨Nat.zero_le _, by simpa using h, fun h => by omega⟩

/-- A cut of a cut. -/
theorem IsWin.trans {l : List Fld} {lim lim' i j : Nat} (h : IsWin l lim i) (k : IsWin (l.drop i) lim' j) (hl : lim' ≤ lim) : IsWin l lim' (i + j) := by
  obtain ⟨a1, a2, a3⟩ := h
  obtain ⟨b1, b2, b3⟩ := k
  rw [List.length_drop] at b1
  rw [List.drop_drop] at b2
  refine ⟨by omega, b2, fun hp => ?_⟩
  by_cases hj : 0 < j
  · have := b3 hj
    rw [List.drop_drop] at this
    rwa [show i + j - 1 = i + (j - 1) from by omega]
  · have : j = 0 := by omega
    subst this
    rw [Nat.add_zero] at hp ⊢
    have := a3 hp
    omega

/-- A field more: first the window of what was there, then the window of that and the new one. -/
theorem IsWin.snoc {l : List Fld} {lim i j : Nat} {f : Fld} (h : IsWin l lim i) (k : IsWin (l.drop i ++ [f]) lim j) : IsWin (l ++ [f]) lim (i + j) := by
  obtain ⟨a1, a2, a3⟩ := h
  obtain ⟨b1, b2, b3⟩ := k
  have e : (l ++ [f]).drop i = l.drop i ++ [f] := List.drop_append_of_le_length a1
  have hl : (l ++ [f]).length = l.length + 1 := by simp
  rw [← e] at b1 b2 b3
  rw [List.length_drop] at b1
  rw [List.drop_drop] at b2
  refine ⟨by omega, b2, fun hp => ?_⟩
  by_cases hj : 0 < j
  · have := b3 hj
    rw [List.drop_drop] at this
    rwa [show i + j - 1 = i + (j - 1) from by omega]
  · have : j = 0 := by omega
    subst this
    rw [Nat.add_zero] at hp ⊢
    have := a3 hp
    rw [List.drop_append_of_le_length (by omega), wt_append]
    omega

/-- add, where the field alone is too large: the table is empty. -/
theorem IsWin.add_big {l : List Fld} {lim j : Nat} {f : Fld} (hf : lim < w1 f) (h : IsWin l 0 j) : l.drop j = [] ∧ IsWin (l ++ [f]) lim (l.length + 1) := by
  obtain ⟨_, a2, _⟩ := h
  refine ⟨?_, by simp, by simp [wt], fun _ => ?_⟩
  · cases e : l.drop j with
    | nil => rfl
    | cons x r => rw [e, wt, w1] at a2; omega
  · rw [Nat.add_sub_cancel, List.drop_append_of_le_length (Nat.le_refl _), List.drop_length]
    simpa [wt] using hf

/-- add, where the field fits. -/
theorem IsWin.add_fits {l : List Fld} {lim j : Nat} {f : Fld} (hf : w1 f ≤ lim) (h : IsWin l (lim - w1 f) j) : IsWin (l ++ [f]) lim j := by
  obtain ⟨a1, a2, a3⟩ := h
  refine ⟨by simp; omega, ?_, fun hp => ?_⟩
  · rw [List.drop_append_of_le_length a1, wt_append]
    simp only [wt]
    omega
  · have := a3 hp
    rw [List.drop_append_of_le_length (by omega), wt_append]
    simp only [wt]
    omega

/-- What zzAddStrings counts: sixteen and the length, for each string. -/
def s16 : List ByteArray → Nat
  | [] => 0
  | x :: r => 16 + x.size + s16 r

theorem s16_append (a b : List ByteArray) : s16 (a ++ b) = s16 a + s16 b := by
  induction a with
  | nil => simp [s16]
  | cons f r ih => simp only [List.cons_append, s16, ih]; omega

theorem s16_take_succ (l : List ByteArray) (i : Nat) (h : i < l.length) : s16 (l.take (i + 1)) = s16 (l.take i) + (16 + l[i].size) := by
  rw [List.take_succ_eq_append_getElem h, s16_append]
  simp [s16]

/-- The fields of two slices of one length. -/
theorem zip_maps (a b : List ByteArray) (h : a.length = b.length) : (a.zip b).map Prod.fst = a ∧ (a.zip b).map Prod.snd = b ∧ (a.zip b).length = a.length := by
  induction a generalizing b with
  | nil => cases b with
    | nil => simp
    | cons => simp at h
  | cons x a ih => cases b with
    | nil => simp at h
    | cons y b =>
      have := ih b (by simpa using h)
      refine ⟨by simp [this.1], by simp [this.2.1], ?_⟩
      rw [List.zip_cons_cons, List.length_cons, List.length_cons, this.2.2]

theorem wt_zip (a b : List ByteArray) (h : a.length = b.length) : wt (a.zip b) = s16 a + s16 b := by
  induction a generalizing b with
  | nil => cases b with
    | nil => simp [wt, s16]
    | cons => simp at h
  | cons x a ih => cases b with
    | nil => simp at h
    | cons y b =>
      have := ih b (by simpa using h)
      simp only [List.zip_cons_cons, wt, w1, s16, this]
      omega

end Go.Proofs.Qxb6620837a.Win
