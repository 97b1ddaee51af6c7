/-
  THE TABLE IN MEMORY: a block known whole, as a list of cells; the table's three cells inside a block; its row of fields.
-/
import Derived.Test.Qxb6620837aStrs
namespace Go.Proofs.Qxb6620837a
open Go.RowKit Win

/-- Block b is a row of cells of type t, none frozen: the list cs. -/
def Blk (w : World) (b : Nat) (cs : List Value) (t : TypeId) : Prop := w.heap[b]? = some (.cells cs.toArray t (0, 0))

theorem Blk.cell {w : World} {b : Nat} {cs : List Value} {t : TypeId} (h : Blk w b cs t) (i : Nat) : w.cell? ⟨b, i, none⟩ = cs[i]? := by
  rw [cell_of_row w b i _ t _ h]; simp
theorem Blk.free {w : World} {b : Nat} {cs : List Value} {t : TypeId} (h : Blk w b cs t) (i : Nat) : w.frozen? ⟨b, i, none⟩ = false := frozen_of_row w b i _ t h
theorem Blk.lt {w : World} {b : Nat} {cs : List Value} {t : TypeId} (h : Blk w b cs t) : b < w.heap.size := lt_of_block h
theorem Blk.set {w : World} {b : Nat} {cs : List Value} {t : TypeId} (h : Blk w b cs t) (i : Nat) (v : Value) : Blk (w.setCell ⟨b, i, none⟩ v) b (cs.set i v) t := by
  unfold Blk
  rw [heap_setCell_same w b i _ t v h]
  simp
theorem Blk.set_other {w : World} {b : Nat} {cs : List Value} {t : TypeId} (h : Blk w b cs t) (a : Addr) (v : Value) (hne : b ≠ a.block) : Blk (w.setCell a v) b cs t := by
  unfold Blk
  rw [heap_setCell_other w a b v hne]
  exact h
theorem Blk.alloc {w : World} {b : Nat} {cs : List Value} {t : TypeId} (h : Blk w b cs t) (o : Obj) : Blk (w.alloc o) b cs t := by
  unfold Blk
  rw [Below.heap_alloc w o b h.lt]
  exact h
theorem Blk.new (w : World) (cs : List Value) (t : TypeId) : Blk (w.alloc (.cells cs.toArray t)) w.heap.size cs t := heap_alloc_new w _
theorem Blk.drewN {w : World} {b : Nat} {cs : List Value} {t : TypeId} (h : Blk w b cs t) (q : Nat) : Blk (w.drewN q) b cs t := h
theorem Blk.drew {w : World} {b : Nat} {cs : List Value} {t : TypeId} (h : Blk w b cs t) : Blk w.drew b cs t := h
theorem Blk.same {w w' : World} {b : Nat} {cs : List Value} {t : TypeId} (h : Blk w b cs t) (e : w'.heap[b]? = w.heap[b]?) : Blk w' b cs t := e.trans h

/-- The cells of a run of fields: two strings each. -/
def flat : List Fld → List Value
  | [] => []
  | f :: r => .string f.1 :: .string f.2 :: flat r

theorem flat_length (l : List Fld) : (flat l).length = 2 * l.length := by
  induction l with
  | nil => rfl
  | cons f r ih => simp [flat, ih]; omega

theorem flat_append (a b : List Fld) : flat (a ++ b) = flat a ++ flat b := by
  induction a with
  | nil => rfl
  | cons f r ih => simp [flat, ih]

theorem flat_get (l : List Fld) (i : Nat) (h : i < l.length) : (flat l)[2 * i]? = some (.string l[i].1) ∧ (flat l)[2 * i + 1]? = some (.string l[i].2) := by
  induction l generalizing i with
  | nil => simp at h
  | cons f r ih =>
    cases i with
    | zero => simp [flat]
    | succ i =>
      have := ih i (by simpa using h)
      rw [show 2 * (i + 1) = 2 * i + 1 + 1 from by omega]
      simpa [flat] using this

/-- THE TABLE: its three cells lie in block tb behind 'pre'; its fields fs in block g, from cell 2k on, with room for cap. -/
structure Tab (w : World) (tb : Nat) (ty : TypeId) (pre post : List Value) (g : Nat) (fs : List Fld) (sz mx : Nat) : Prop where
  at_ : ∃ (k cap : Nat) (A B : List Value), Blk w tb (pre ++ (.slice (some ⟨g, 2 * k, none⟩) fs.length cap :: .int .u64 sz :: .int .u64 mx :: post)) ty ∧
    Blk w g (A ++ (flat fs ++ B)) 41 ∧ tb ≠ g ∧ A.length = 2 * k ∧ fs.length ≤ cap ∧ 2 * (cap - fs.length) ≤ B.length ∧ cap ≤ 9223372036854775807

/-- What an operation on the table leaves: every old block but its two is as it was. -/
structure TabFr (w w' : World) (tb g : Nat) : Prop where
  os : w'.os = w.os
  tape : w'.tape = w.tape
  output : w'.output = w.output
  size : w.heap.size ≤ w'.heap.size
  block : ∀ b, b < w.heap.size → b ≠ tb → b ≠ g → w'.heap[b]? = w.heap[b]?

theorem TabFr.refl (w : World) (tb g : Nat) : TabFr w w tb g := ⟨rfl, rfl, rfl, Nat.le_refl _, fun _ _ _ _ => rfl⟩
theorem TabFr.trans {a b c : World} {tb g : Nat} (h : TabFr a b tb g) (k : TabFr b c tb g) : TabFr a c tb g :=
  ⟨k.os.trans h.os, k.tape.trans h.tape, k.output.trans h.output, Nat.le_trans h.size k.size, fun i hi h1 h2 => (k.block i (Nat.lt_of_lt_of_le hi h.size) h1 h2).trans (h.block i hi h1 h2)⟩
theorem TabFr.drew {a b : World} {tb g : Nat} (h : TabFr a b tb g) : TabFr a b.drew tb g := ⟨h.os, h.tape, h.output, h.size, h.block⟩
theorem TabFr.drewN {a b : World} {tb g : Nat} (h : TabFr a b tb g) (q : Nat) : TabFr a (b.drewN q) tb g := ⟨h.os, h.tape, h.output, h.size, h.block⟩
theorem TabFr.alloc {a b : World} {tb g : Nat} (h : TabFr a b tb g) (o : Obj) : TabFr a (b.alloc o) tb g :=
  h.trans ⟨rfl, rfl, rfl, by simp, fun k hk _ _ => Below.heap_alloc b o k hk⟩
theorem TabFr.setCell {a b : World} {tb g : Nat} (h : TabFr a b tb g) (p : Addr) (v : Value) (hp : p.block = tb ∨ p.block = g) : TabFr a (b.setCell p v) tb g :=
  h.trans ⟨rfl, rfl, rfl, by simp [World.setCell], fun k _ h1 h2 => heap_setCell_other b p k v (by rcases hp with hp | hp <;> omega)⟩
theorem TabFr.below {a b : World} {tb g B : Nat} (h : TabFr a b tb g) (h1 : B ≤ tb) (h2 : B ≤ g) (h3 : B ≤ a.heap.size) : Below B a b :=
  ⟨h.os, h.tape, h.output, h.size, fun k hk => h.block k (by omega) (by omega) (by omega)⟩

/-- (Field).Size -/
theorem size_any (a b : ByteArray) (ha : a.size ≤ 4194304) (hb : b.size ≤ 4194304) (w : World) :
    Calls Try.prog 39 #[.agg #[.string a, .string b]] w fun e w' => e = .returned (.int .i64 ((w1 (a, b) : Nat) : Int)) ∧ w' = w.alloc (.cells #[.string a, .string b] 41) := by
  have e : ((w1 (a, b) : Nat) : Int) = (a.size : Int) + b.size + 32 := by simp [w1]
  rw [e]
  clear e
  go_enter Try.func39, Try.ntmps39
  go_wp2
  go_ret
  exact ⟨rfl, rfl⟩

end Go.Proofs.Qxb6620837a
