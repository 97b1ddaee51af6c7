/-
  PLAIN: HPACK's integer encoding as lists of numbers; no Go in sight.
-/
namespace Go.Proofs.Qxb6620837a.Enc

/-- The octets behind the prefix: seven bits each, the lowest first, the high bit set on all but the last. -/
def digs : Nat → Nat → List Int
  | 0, u => [(u : Int)]
  | f + 1, u => if 128 ≤ u then ((u % 128 + 128 : Nat) : Int) :: digs f (u / 128) else [(u : Int)]

/-- The whole encoding. -/
def enc (first ones v : Nat) : List Int :=
  if v < ones then [((first + v : Nat) : Int)] else ((first + ones : Nat) : Int) :: digs 9 (v - ones)

theorem digs_small (f u : Nat) (h : u < 128) : digs f u = [(u : Int)] := by
  cases f with
  | zero => rfl
  | succ f => rw [digs, if_neg (by omega)]

theorem digs_big (f u : Nat) (h : 128 ≤ u) : digs (f + 1) u = ((u % 128 + 128 : Nat) : Int) :: digs f (u / 128) := by
  rw [digs, if_pos h]

theorem digs_length_pos (f u : Nat) : 1 ≤ (digs f u).length := by
  cases f with
  | zero => simp [digs]
  | succ f => rw [digs]; split <;> simp

theorem digs_length_le (f u : Nat) : (digs f u).length ≤ f + 1 := by
  induction f generalizing u with
  | zero => simp [digs]
  | succ f ih => rw [digs]; split
                 · simp; exact ih _
                 · simp

/-- A number's digits are no beginning of another's. -/
theorem digs_prefix (f u u' : Nat) (hu : u < 128 * 128 ^ f) (hu' : u' < 128 * 128 ^ f) (h : digs f u <+: digs f u') : u = u' := by
  induction f generalizing u u' with
  | zero =>
    simp [digs] at h
    omega
  | succ f ih =>
    have e : 128 * 128 ^ (f + 1) = (128 * 128 ^ f) * 128 := by rw [Nat.pow_succ]; omega
    by_cases a : 128 ≤ u
    · by_cases b : 128 ≤ u'
      · rw [digs_big f u a, digs_big f u' b, List.cons_prefix_cons] at h
        have := ih (u / 128) (u' / 128) (by omega) (by omega) h.2
        omega
      · rw [digs_big f u a, digs_small (f + 1) u' (by omega), List.cons_prefix_cons] at h
        omega
    · by_cases b : 128 ≤ u'
      · rw [digs_small (f + 1) u (by omega), digs_big f u' b, List.cons_prefix_cons] at h
        omega
      · rw [digs_small (f + 1) u (by omega), digs_small (f + 1) u' (by omega), List.cons_prefix_cons] at h
        omega

theorem digs_mono (f u u' : Nat) (h : u ≤ u') : (digs f u).length ≤ (digs f u').length := by
  induction f generalizing u u' with
  | zero => simp [digs]
  | succ f ih =>
    by_cases a : 128 ≤ u
    · rw [digs_big f u a, digs_big f u' (by omega)]
      simp only [List.length_cons]
      have := ih (u / 128) (u' / 128) (by omega)
      omega
    · rw [digs_small (f + 1) u (by omega)]
      exact digs_length_pos _ _

theorem enc_prefix (first ones v w : Nat) (hv : v < 2 ^ 64) (hw : w < 2 ^ 64) (h : enc first ones v <+: enc first ones w) : v = w := by
  unfold enc at h
  by_cases a : v < ones
  · by_cases b : w < ones
    · rw [if_pos a, if_pos b, List.cons_prefix_cons] at h
      omega
    · rw [if_pos a, if_neg b, List.cons_prefix_cons] at h
      omega
  · by_cases b : w < ones
    · rw [if_neg a, if_pos b, List.cons_prefix_cons] at h
      omega
    · rw [if_neg a, if_neg b, List.cons_prefix_cons] at h
      have := digs_prefix 9 (v - ones) (w - ones) (by omega) (by omega) h.2
      omega

theorem enc_inj (first ones v w : Nat) (hv : v < 2 ^ 64) (hw : w < 2 ^ 64) : enc first ones v = enc first ones w ↔ v = w :=
  ⟨fun h => enc_prefix first ones v w hv hw (by rw [h]; exact List.prefix_refl _), fun h => by rw [h]⟩

/-- Neither is a proper beginning of the other. -/
theorem enc_take (first ones v w : Nat) (hv : v < 2 ^ 64) (hw : w < 2 ^ 64) (hl : (enc first ones w).length < (enc first ones v).length) :
    (enc first ones v).take (enc first ones w).length ≠ enc first ones w := by
  intro h
  have hp : enc first ones w <+: enc first ones v := by rw [← h]; exact List.take_prefix _ _
  have := enc_prefix first ones w v hw hv hp
  subst this
  omega

theorem enc_mono (first ones v w : Nat) (h : v ≤ w) : (enc first ones v).length ≤ (enc first ones w).length := by
  unfold enc
  by_cases a : v < ones
  · rw [if_pos a]
    split <;> simp
  · rw [if_neg a, if_neg (by omega)]
    simp only [List.length_cons]
    have := digs_mono 9 (v - ones) (w - ones) (by omega)
    omega

theorem enc_length (first ones v : Nat) : 1 ≤ (enc first ones v).length ∧ (enc first ones v).length ≤ 11 := by
  unfold enc
  split
  · simp
  · simp only [List.length_cons]
    have := digs_length_le 9 (v - ones)
    omega

/-- Digit k of the tail: k = its place. -/
theorem digs_get (f u k : Nat) (hu : u < 128 * 128 ^ f) (hk : k < (digs f u).length) :
    (digs f u).getD k 0 = if k + 1 < (digs f u).length then ((u / 128 ^ k % 128 + 128 : Nat) : Int) else ((u / 128 ^ k : Nat) : Int) := by
  induction f generalizing u k with
  | zero =>
    simp [digs] at hk ⊢
    subst hk
    simp
  | succ f ih =>
    have e : 128 * 128 ^ (f + 1) = (128 * 128 ^ f) * 128 := by rw [Nat.pow_succ]; omega
    by_cases a : 128 ≤ u
    · rw [digs_big f u a] at hk ⊢
      cases k with
      | zero =>
        have := digs_length_pos f (u / 128)
        rw [if_pos (by simp; omega)]
        simp
      | succ k =>
        simp only [List.length_cons] at hk ⊢
        have := ih (u / 128) k (by omega) (by omega)
        have d : u / 128 / 128 ^ k = u / 128 ^ (k + 1) := by rw [Nat.div_div_eq_div_mul, Nat.pow_succ, Nat.mul_comm]
        rw [d] at this
        simp only [List.getD_cons_succ, this]
        by_cases c : k + 1 < (digs f (u / 128)).length
        · rw [if_pos c, if_pos (by omega)]
        · rw [if_neg c, if_neg (by omega)]
    · rw [digs_small (f + 1) u (by omega)] at hk ⊢
      simp at hk
      subst hk
      simp

/-- The last digit is below 128; and, where there are two or more, not 0. -/
theorem digs_last (f u : Nat) (hu : u < 128 * 128 ^ f) : u / 128 ^ ((digs f u).length - 1) < 128 ∧ (2 ≤ (digs f u).length → 0 < u / 128 ^ ((digs f u).length - 1)) := by
  induction f generalizing u with
  | zero => simp [digs] at hu ⊢; omega
  | succ f ih =>
    have e : 128 * 128 ^ (f + 1) = (128 * 128 ^ f) * 128 := by rw [Nat.pow_succ]; omega
    by_cases a : 128 ≤ u
    · rw [digs_big f u a]
      simp only [List.length_cons, Nat.add_sub_cancel]
      have h := ih (u / 128) (by omega)
      have hp := digs_length_pos f (u / 128)
      have d : u / 128 / 128 ^ ((digs f (u / 128)).length - 1) = u / 128 ^ (digs f (u / 128)).length := by
        rw [Nat.div_div_eq_div_mul]
        congr 1
        rw [Nat.mul_comm, ← Nat.pow_succ]
        congr 1
        omega
      rw [d] at h
      refine ⟨h.1, fun _ => ?_⟩
      by_cases c : 2 ≤ (digs f (u / 128)).length
      · exact h.2 c
      · have c1 : (digs f (u / 128)).length = 1 := by omega
        rw [c1]
        simp
        omega
    · rw [digs_small (f + 1) u (by omega)]
      simp
      omega

end Go.Proofs.Qxb6620837a.Enc
