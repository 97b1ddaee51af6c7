/-
  PLAIN: a script of table sizes: what the encoder keeps, against the law's own account. And a slice of uint32 that came in.
-/
import Derived.Test.Qxb6620837aIn
import Derived.Test.Qxb6620837aEncoder
namespace Go.Proofs.Qxb6620837a
open Go.RowKit Win

/-- (resized, lowest, maximum) behind a script of sizes. -/
def hst (r : Bool) (low mx : Nat) : List Nat → Bool × Nat × Nat
  | [] => (r, low, mx)
  | n :: ns => hst (nextR r mx n) (nextL r low mx n) n ns

/-- The least of a and the script. -/
def mm (a : Nat) : List Nat → Nat
  | [] => a
  | n :: ns => mm (min a n) ns

/-- The script's last, or a. -/
def lst (a : Nat) : List Nat → Nat
  | [] => a
  | n :: ns => lst n ns

theorem hst_append (r : Bool) (low mx : Nat) (a b : List Nat) : hst r low mx (a ++ b) = hst (hst r low mx a).1 (hst r low mx a).2.1 (hst r low mx a).2.2 b := by
  induction a generalizing r low mx with
  | nil => rfl
  | cons n ns ih => exact ih _ _ _

theorem mm_append (a : Nat) (x y : List Nat) : mm a (x ++ y) = mm (mm a x) y := by
  induction x generalizing a with
  | nil => rfl
  | cons n ns ih => exact ih _

theorem lst_append (a : Nat) (x y : List Nat) : lst a (x ++ y) = lst (lst a x) y := by
  induction x generalizing a with
  | nil => rfl
  | cons n ns ih => exact ih _

theorem mm_le (a : Nat) (x : List Nat) : mm a x ≤ a := by
  induction x generalizing a with
  | nil => exact Nat.le_refl _
  | cons n ns ih => exact Nat.le_trans (ih _) (Nat.min_le_left _ _)

/-- Resized already. -/
theorem hst_true (low mx : Nat) (ns : List Nat) : hst true low mx ns = (true, mm low ns, lst mx ns) := by
  induction ns generalizing low mx with
  | nil => rfl
  | cons n ns ih =>
    have e1 : nextR true mx n = true := by simp [nextR]
    have e2 : nextL true low mx n = min low n := by simp [nextL]
    show hst (nextR true mx n) (nextL true low mx n) n ns = _
    rw [e1, e2, ih]
    rfl

/-- No change. -/
theorem hst_same (low mx : Nat) (ns : List Nat) (h : ∀ x ∈ ns, x = mx) : hst false low mx ns = (false, low, mx) := by
  induction ns with
  | nil => rfl
  | cons n ns ih =>
    have hn : n = mx := h n (by simp)
    subst hn
    have e1 : nextR false n n = false := by simp [nextR]
    have e2 : nextL false low n n = low := by simp [nextL]
    show hst (nextR false n n) (nextL false low n n) n ns = _
    rw [e1, e2]
    exact ih (fun x hx => h x (by simp [hx]))

/-- The first change, at c. -/
theorem hst_change (low mx : Nat) (ns : List Nat) (c : Nat) (hc : c < ns.length) (h1 : ns[c] ≠ mx) (h2 : ∀ x ∈ ns.take c, x = mx) : hst false low mx ns = (true, mm ns[c] (ns.drop (c + 1)), lst mx ns) := by
  have e : ns = ns.take c ++ ns[c] :: ns.drop (c + 1) := by rw [← List.drop_eq_getElem_cons hc, List.take_append_drop]
  have e1 : nextR false mx ns[c] = true := by simp [nextR, h1]
  have e2 : nextL false low mx ns[c] = ns[c] := by simp [nextL, h1]
  have g1 : hst false low mx (ns.take c ++ ns[c] :: ns.drop (c + 1)) = (true, mm ns[c] (ns.drop (c + 1)), lst ns[c] (ns.drop (c + 1))) := by
    rw [hst_append, hst_same low mx _ h2]
    show hst (nextR false mx ns[c]) (nextL false low mx ns[c]) ns[c] (ns.drop (c + 1)) = _
    rw [e1, e2, hst_true]
  have g2 : lst mx (ns.take c ++ ns[c] :: ns.drop (c + 1)) = lst ns[c] (ns.drop (c + 1)) := by rw [lst_append]; rfl
  rw [← e] at g1 g2
  rw [g1, g2]

theorem hst_last (r : Bool) (low mx : Nat) (ns : List Nat) : (hst r low mx ns).2.2 = lst mx ns := by
  induction ns generalizing r low mx with
  | nil => rfl
  | cons n ns ih => exact ih _ _ _

/-- The law's 'firstChange'. -/
def Fc (mx : Nat) (l : List Nat) (f : Int) : Prop := (f = -1 ∧ ∀ x ∈ l, x = mx) ∨ ∃ c : Nat, f = (c : Int) ∧ ∃ hc : c < l.length, l[c] ≠ mx ∧ ∀ x ∈ l.take c, x = mx

theorem Fc.nil (mx : Nat) : Fc mx [] (-1) := .inl ⟨rfl, fun x hx => by simp at hx⟩

theorem Fc.low {mx : Nat} {l : List Nat} {f : Int} (h : Fc mx l f) : -1 ≤ f ∧ f < (l.length : Int) := by
  rcases h with ⟨rfl, _⟩ | ⟨c, rfl, hc, _⟩
  · omega
  · omega

theorem Fc.keep {mx : Nat} {l : List Nat} {f : Int} {n : Nat} (h : Fc mx l f) (hf : 0 ≤ f ∨ n = mx) : Fc mx (l ++ [n]) f := by
  rcases h with ⟨rfl, h⟩ | ⟨c, rfl, hc, h1, h2⟩
  · have hn : n = mx := by omega
    refine .inl ⟨rfl, fun x hx => ?_⟩
    simp at hx
    rcases hx with hx | hx
    · exact h x hx
    · omega
  · refine .inr ⟨c, rfl, by simp; omega, ?_, ?_⟩
    · rw [List.getElem_append_left hc]; exact h1
    · rw [List.take_append_of_le_length (by omega)]; exact h2

theorem Fc.new {mx : Nat} {l : List Nat} {f : Int} {n : Nat} (h : Fc mx l f) (hf : f < 0) (hn : n ≠ mx) : Fc mx (l ++ [n]) (l.length : Int) := by
  rcases h with ⟨rfl, h⟩ | ⟨c, rfl, hc, h1, h2⟩
  · refine .inr ⟨l.length, rfl, by simp, by simpa using hn, ?_⟩
    rw [List.take_append_of_le_length (Nat.le_refl _), List.take_length]
    exact h
  · omega

theorem Fc.res {mx : Nat} {l : List Nat} {f : Int} (h : Fc mx l f) (r : Bool) (low : Nat) : (hst r low mx l).1 = (r || decide (0 ≤ f)) := by
  cases r with
  | true => rw [hst_true]; rfl
  | false =>
    rcases h with ⟨rfl, h⟩ | ⟨c, rfl, hc, h1, h2⟩
    · rw [hst_same low mx l h]; rfl
    · rw [hst_change low mx l c hc h1 h2]; simp

theorem take_succ_getD (l : List Nat) (k : Nat) (h : k < l.length) : l.take (k + 1) = l.take k ++ [l[k]] := List.take_succ_eq_append_getElem h

/-- A cut behind a cut, by whatever limit. -/
theorem Win.IsWin.step {l : List Fld} {lim i n j : Nat} (h : IsWin l lim i) (k : IsWin (l.drop i) n j) : IsWin l (min lim n) (i + j) := by
  by_cases hl : n ≤ lim
  · rw [Nat.min_eq_right hl]
    exact h.trans k hl
  · have h0 : j = 0 := k.uniq (IsWin.zero (by have := h.2.1; omega))
    subst h0
    rw [Nat.min_eq_left (by omega)]
    exact h

/-- The encoder behind a script. -/
def Scr (wr : World) (eb g : Nat) (h r0 : Bool) (low0 mx : Nat) (fs : List Fld) (l : List Nat) : Prop :=
  ∃ j r low m, IsWin fs (mm mx l) j ∧ hst r0 low0 mx l = (r, low, m) ∧ wt (fs.drop j) ≤ m ∧ Tab wr eb 67 [.bool h] [.bool r, .int .u64 (low : Int)] g (fs.drop j) (wt (fs.drop j)) m

theorem Scr.step {w3 : World} {eb g : Nat} {h r0 : Bool} {low0 mx : Nat} {fs : List Fld} {l : List Nat} {n j : Nat} {r : Bool} {low m j' : Nat} (hj : IsWin fs (mm mx l) j) (hh : hst r0 low0 mx l = (r, low, m))
    (hj' : IsWin (fs.drop j) n j') (hT : Tab w3 eb 67 [.bool h] [.bool (nextR r m n), .int .u64 ((nextL r low m n : Nat) : Int)] g ((fs.drop j).drop j') (wt ((fs.drop j).drop j')) n) : Scr w3 eb g h r0 low0 mx fs (l ++ [n]) := by
  refine ⟨j + j', nextR r m n, nextL r low m n, n, ?_, ?_, ?_, ?_⟩
  · rw [mm_append]
    exact hj.step hj'
  · rw [hst_append, hh]; rfl
  · rw [← List.drop_drop]; exact hj'.2.1
  · rw [← List.drop_drop]; exact hT

/-- WHAT IS KNOWN OF A SLICE OF uint32 THAT CAME IN. -/
structure U32In (w : World) (ao : Option Addr) (n ca : Nat) (ns : List Nat) : Prop where
  len : ns.length = n
  cap : n ≤ ca
  max : ca ≤ 9223372036854775807
  small : ∀ i (hi : i < ns.length), ns[i] ≤ 4294967295
  at_ : ∀ i (hi : i < ns.length), ∃ b o, ao = some ⟨b, o, none⟩ ∧ w.cell? ⟨b, o + i, none⟩ = some (.int .u32 (ns[i] : Int))

theorem U32In.below {w w' : World} {ao : Option Addr} {n ca : Nat} {ns : List Nat} (h : U32In w ao n ca ns) (hb : Below w.heap.size w w') : U32In w' ao n ca ns :=
  ⟨h.len, h.cap, h.max, h.small, fun i hi => by obtain ⟨b, o, e, hc⟩ := h.at_ i hi; exact ⟨b, o, e, cell_later hb hc⟩⟩

theorem u32In_nil (w : World) : U32In w none 0 0 [] := ⟨rfl, Nat.le_refl _, by omega, fun i hi => by simp at hi, fun i hi => by simp at hi⟩

theorem u32In_of {w : World} {a : Addr} {len cap : Nat} {zs : List Int} (hl : len ≤ cap) (hm : cap ≤ maxLen) (hz : zs.length = cap) (hc : ∀ i, i < zs.length → w.cell? (a.add i) = some (.int .u32 (zs.getD i 0)))
    (hb : ∀ n ∈ zs, 0 ≤ n ∧ n ≤ 4294967295) : U32In w (some a) len cap ((zs.take len).map Int.toNat) := by
  refine ⟨by simp; omega, hl, hm, fun i hi => ?_, fun i hi => ?_⟩
  · simp at hi ⊢
    have := hb zs[i] (List.getElem_mem _)
    omega
  · simp at hi
    obtain ⟨b, o, spot⟩ := a
    have hs : spot = none := by simpa [Addr.add] using World.cell?_spot (hc 0 (by omega))
    subst hs
    refine ⟨b, o, rfl, ?_⟩
    have := hc i (by omega)
    rw [Addr.add_lit] at this
    rw [this]
    have hi' : i < zs.length := by omega
    have := hb zs[i] (List.getElem_mem _)
    simp [hi']
    omega

end Go.Proofs.Qxb6620837a
