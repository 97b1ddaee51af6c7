/-
  A SLICE OF STRINGS THAT CAME IN; the copy that a law makes first; the last calls of a law on tables.
-/
import Derived.Test.Qxb6620837aStrs2
import Derived.Test.Qxb6620837aJoin
namespace Go.Proofs.Qxb6620837a
open Go.RowKit Win

/-- What is known of a slice of strings that came in. -/
structure StrIn (w : World) (ao : Option Addr) (n ca : Nat) (xs : List ByteArray) : Prop where
  len : xs.length = n
  cap : n ≤ ca
  max : ca ≤ 9223372036854775807
  nil : ao = none → n = 0 ∧ ca = 0
  at_ : StrsAt w ao xs

theorem StrIn.below {w w' : World} {ao : Option Addr} {n ca : Nat} {xs : List ByteArray} (h : StrIn w ao n ca xs) (hb : Below w.heap.size w w') : StrIn w' ao n ca xs := ⟨h.len, h.cap, h.max, h.nil, h.at_.below hb⟩

theorem neq_nil (W : World) (a : Option Addr) (n c : Nat) : (binOp .neq 33 (.slice a n c) (.slice none 0 0)).run Try.prog W = .ok (.bool (!a.isNone)) W := by
  simpa using run_neq_slice_nil_any (P := Try.prog) W 33 9 a n c 0 0 Try.underlying33

/-- What 'make' and 'copy' want, for a slice of strings that is copied first. -/
theorem clone_facts {w : World} {a : Addr} {n ca : Nat} {xs : List ByteArray} (h : StrIn w (some a) n ca xs) (hn : n ≤ 65536) :
    ∃ mc X : List Value, (∀ w, (Instr.makeSlice 33 (.int .i64 (n : Int)) (.int .i64 (n : Int))).run Try.prog w = .ok (.slice (some ⟨w.heap.size, 0, none⟩) n n) (w.alloc (.cells mc.toArray 9))) ∧
      Hid (mc.length = n ∧ X = xs.map Value.string ∧ X.length = n ∧ (∀ v ∈ X, v.oneCell' = true) ∧ splice mc 0 X = X) ∧
      Hid (0 < X.length → ∃ ad, some a = some ad ∧ ∀ j v, X[j]? = some v → (w.alloc (.cells mc.toArray 9)).cell? (ad.add j) = some v) := by
  have hmk := run_make_row' (P := Try.prog) 33 9 (.string ByteArray.empty) 16 Try.underlying33 Try.info9 rfl .i64 .i64 n (by omega) (by omega)
  obtain ⟨mc, hmc⟩ : ∃ mc : List Value, mc.toArray = madeCells #[.string ByteArray.empty] n := ⟨(madeCells #[.string ByteArray.empty] n).toList, by simp⟩
  have hml : mc.length = n := by have := congrArg Array.size hmc; rw [size_madeCells] at this; simpa using this
  rw [← hmc] at hmk
  have hX : (xs.map Value.string).length = n := by simpa using h.len
  refine ⟨mc, xs.map Value.string, hmk, ⟨hml, rfl, hX, strs_oneCell _, ?_⟩, fun h0 => (h.at_.below ((Below.refl _ _).alloc (Nat.le_refl _) _)).src h0⟩
  unfold splice
  simp [List.drop_eq_nil_of_le (show mc.length ≤ xs.length by have := h.len; omega)]

theorem clone_done {w0 w1 : World} {n : Nat} {xs : List ByteArray} {mc X : List Value} {ca : Nat} {a : Option Addr} (h : StrIn w0 a n ca xs) (hn : n ≤ 65536)
    (hf : Hid (mc.length = n ∧ X = xs.map Value.string ∧ X.length = n ∧ (∀ v ∈ X, v.oneCell' = true) ∧ splice mc 0 X = X)) (hg : Hid (w1.heap[w0.heap.size]? = some (.cells (splice mc 0 X).toArray 9 (0, 0)))) :
    StrIn w1 (some ⟨w0.heap.size, 0, none⟩) n n xs := by
  have hg' := hg.out
  rw [hf.out.2.2.2.2, hf.out.2.1] at hg'
  exact ⟨h.len, Nat.le_refl _, by omega, fun h => by simp at h, strs_of_block hg'⟩

theorem StrsAt.drop {w : World} {b o : Nat} {xs : List ByteArray} (h : StrsAt w (some ⟨b, o, none⟩) xs) (i : Nat) : StrsAt w (some ⟨b, o + i, none⟩) (xs.drop i) := by
  intro k hk
  rw [List.length_drop] at hk
  obtain ⟨b', o', e, hc⟩ := h (i + k) (by omega)
  simp at e
  obtain ⟨rfl, rfl⟩ := e
  refine ⟨_, _, rfl, ?_⟩
  rw [Nat.add_assoc, hc]
  simp

/-- The last three calls of a law on tables: two slices of strings that are the same run of fields. -/
theorem end_facts (ao bo co do_ : Option Addr) (L c1 c2 c3 c4 : Nat) (D : List Fld) (wD : Nat) (hD : wt D = wD) (hL : D.length = L) (hb : L ≤ 1048576) (hw : wt D ≤ 4194304) (w : World)
    (s1 : StrsAt w ao (D.map Prod.fst)) (s2 : StrsAt w bo (D.map Prod.snd)) (s3 : StrsAt w co (D.map Prod.fst)) (s4 : StrsAt w do_ (D.map Prod.snd)) :
    Hid ((∀ q, Calls Try.prog 26 #[.slice ao L c1, .slice co L c3] (w.drewN q) fun e w' => e = .returned (.bool true) ∧ ∃ q', w' = w.drewN (q + q')) ∧
      (∀ q, Calls Try.prog 26 #[.slice bo L c2, .slice do_ L c4] (w.drewN q) fun e w' => e = .returned (.bool true) ∧ ∃ q', w' = w.drewN (q + q')) ∧
      (∀ q, Calls Try.prog 27 #[.slice co L c3, .slice do_ L c4] (w.drewN q) fun e w' => e = .returned (.int .u64 (wD : Int)) ∧ ∃ q', w' = w.drewN (q + q'))) := by
  subst hD
  have m : L ≤ maxLen := by unfold maxLen; omega
  refine ⟨fun q => ?_, fun q => ?_, fun q => ?_⟩
  · have h := sames_any ao co L L c1 c3 (D.map Prod.fst) (D.map Prod.fst) (by simpa using hL) (by simpa using hL) (w.drewN q) m m (s1.drewN q) (s3.drewN q)
    rw [decide_eq_true rfl] at h
    refine h.mono ?_
    rintro e w' ⟨rfl, q', rfl⟩
    exact ⟨rfl, q', by simp⟩
  · have h := sames_any bo do_ L L c2 c4 (D.map Prod.snd) (D.map Prod.snd) (by simpa using hL) (by simpa using hL) (w.drewN q) m m (s2.drewN q) (s4.drewN q)
    rw [decide_eq_true rfl] at h
    refine h.mono ?_
    rintro e w' ⟨rfl, q', rfl⟩
    exact ⟨rfl, q', by simp⟩
  · refine (fsize_any co do_ L c3 c4 D hL hw (w.drewN q) m (s3.drewN q) (s4.drewN q)).mono ?_
    rintro e w' ⟨rfl, q', rfl⟩
    exact ⟨rfl, q', by simp⟩

/-- Out of the cells as the reader gives them. -/
theorem strIn_of {w : World} {a : Addr} {len cap : Nat} {ss : List ByteArray} (hl : len ≤ cap) (hm : cap ≤ maxLen) (hz : ss.length = cap) (hc : ∀ i, i < ss.length → w.cell? (a.add i) = some (.string (ss.getD i ByteArray.empty))) : StrIn w (some a) len cap (ss.take len) := by
  refine ⟨by simp; omega, hl, hm, fun h => by simp at h, fun i hi => ?_⟩
  simp at hi
  obtain ⟨b, o, spot⟩ := a
  have hs : spot = none := by simpa [Addr.add] using World.cell?_spot (hc 0 (by omega))
  subst hs
  refine ⟨b, o, rfl, ?_⟩
  have := hc i (by omega)
  rw [Addr.add_lit] at this
  rw [this]
  simp [show i < len by omega]

theorem strIn_nil (w : World) : StrIn w none 0 0 [] := ⟨rfl, Nat.le_refl _, by omega, fun _ => ⟨rfl, rfl⟩, fun i hi => by simp at hi⟩

end Go.Proofs.Qxb6620837a
