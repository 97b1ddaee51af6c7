/-
  THE WALKS: space (12), comma (11), ZZComma (7).
-/
import Derived.Test.Qxb6623341aSkip
import Derived.Deep.LoopGhost
import Derived.Deep.RegionWith
namespace Go.Proofs.Qxb6623341a
open Go.RowKit

/-- From i on, j is the first index that holds no space. -/
def IsSp (xs : List Int) (i j : Nat) : Prop := i ≤ j ∧ j ≤ xs.length ∧ (∀ k, i ≤ k → k < j → sp (xs.getD k 0) = true) ∧ (j < xs.length → sp (xs.getD j 0) = false)

/-- What a walk on the struct in block mb leaves: every old block but mb is as it was. -/
structure Fr (w w' : World) (mb : Nat) : Prop where
  os : w'.os = w.os
  tape : w'.tape = w.tape
  output : w'.output = w.output
  size : w.heap.size ≤ w'.heap.size
  block : ∀ b, b < w.heap.size → b ≠ mb → w'.heap[b]? = w.heap[b]?

theorem Fr.refl (w : World) (mb : Nat) : Fr w w mb := ⟨rfl, rfl, rfl, Nat.le_refl _, fun _ _ _ => rfl⟩
theorem Fr.trans {a b c : World} {mb : Nat} (h : Fr a b mb) (k : Fr b c mb) : Fr a c mb :=
  ⟨k.os.trans h.os, k.tape.trans h.tape, k.output.trans h.output, Nat.le_trans h.size k.size, fun i hi h1 => (k.block i (Nat.lt_of_lt_of_le hi h.size) h1).trans (h.block i hi h1)⟩
theorem Fr.drewN {a b : World} {mb : Nat} (h : Fr a b mb) (q : Nat) : Fr a (b.drewN q) mb := ⟨h.os, h.tape, h.output, h.size, h.block⟩
theorem Fr.drew {a b : World} {mb : Nat} (h : Fr a b mb) : Fr a b.drew mb := ⟨h.os, h.tape, h.output, h.size, h.block⟩
theorem Fr.setCell {a b : World} {mb : Nat} (h : Fr a b mb) (o : Nat) (v : Value) : Fr a (b.setCell ⟨mb, o, none⟩ v) mb :=
  h.trans ⟨rfl, rfl, rfl, by simp [World.setCell], fun k _ h1 => heap_setCell_other b ⟨mb, o, none⟩ k v h1⟩
theorem Fr.below {a b : World} {mb B : Nat} (h : Fr a b mb) (h1 : B ≤ mb) (h3 : B ≤ a.heap.size) : Below B a b :=
  ⟨h.os, h.tape, h.output, h.size, fun k hk => h.block k (by omega) (by omega)⟩

theorem Fr.cell {w w' : World} {mb b o : Nat} {v : Value} (h : Fr w w' mb) (hne : b ≠ mb) (hc : w.cell? ⟨b, o, none⟩ = some v) : w'.cell? ⟨b, o, none⟩ = some v := by
  have hl := block_lt_of_cell hc
  have e := h.block b hl hne
  unfold World.cell? at hc ⊢
  simp only at hc ⊢
  rw [e]
  exact hc

def mcs (b o n : Nat) (i : Nat) (s : ByteArray) : List Value := [.slice (some ⟨b, o, none⟩) n n, .int .i64 (i : Int), .string s]

set_option maxHeartbeats 1000000 in
/-- (*memberWalk).space -/
theorem space_any (mb b o n i : Nat) (s : ByteArray) (xs : List Int) (hx : xs.length = n) (hn : n ≤ 1048576) (hi : i ≤ n) (hne : b ≠ mb) (w : World) (hB : Blk w mb (mcs b o n i s) 32)
    (HC : Hid (∀ k (hk : k < xs.length), w.cell? ⟨b, o + k, none⟩ = some (.int .u8 xs[k]))) :
    Calls Try.prog 12 #[.pointer (some ⟨mb, 0, none⟩)] w fun e w' => e = .returned (.tuple #[]) ∧ ∃ j, IsSp xs i j ∧ Blk w' mb (mcs b o n j s) 32 ∧ Fr w w' mb := by
  have CE := fun c w => jspace_any c w
  have HB : Hid (Blk w mb (mcs b o n i s) 32) := hB
  clear hB
  go_enter Try.func12, Try.ntmps12
  go_wp2
  go_loopg [] (n - i) (fun k wr => Hid (∃ j, i ≤ j ∧ j ≤ n ∧ k = n - j ∧ Blk wr mb (mcs b o n j s) 32 ∧ Fr w wr mb ∧ ∀ k, i ≤ k → k < j → sp (xs.getD k 0) = true))
  case atStart => exact ⟨i, Nat.le_refl _, hi, by omega, HB.out, Fr.refl _ _, fun k h1 h2 => by omega⟩
  case round =>
    obtain ⟨j, hij, hj, hgk, hBr, hFr, hall⟩ := hrel
    have HG : Hid (gk = n - j) := hgk
    have HF : Hid (Fr w wr mb) := hFr
    have HA : Hid (∀ k, i ≤ k → k < j → sp (xs.getD k 0) = true) := hall
    have HBr : Hid (Blk wr mb (mcs b o n j s) 32) := hBr
    have c0 : wr.cell? ⟨mb, 0, none⟩ = some (.slice (some ⟨b, o, none⟩) n n) := by rw [hBr.cell]; rfl
    have c1 : wr.cell? ⟨mb, 1, none⟩ = some (.int .i64 (j : Int)) := by rw [hBr.cell]; rfl
    have f1 : wr.frozen? ⟨mb, 1, none⟩ = false := hBr.free _
    clear hgk hFr hall hBr
    by_cases hlt : j < n
    · have hkf : j < xs.length := by omega
      have g1 : wr.cell? ⟨b, o + j, none⟩ = some (.int .u8 xs[j]) := HF.out.cell hne (HC.out j hkf)
      have i1 : (0 : Int) ≤ (j : Int) := by omega
      have i2 : (j : Int) < (n : Int) := by omega
      have hgd := getD_lt xs j hkf
      have C' := fun w => CE xs[j] w
      generalize hf : xs[j] = f at *
      have HGD : Hid (xs.getD j 0 = f) := hgd
      clear hf CE hgd
      cases hs : sp f with
      | true =>
        rw [hs] at C'
        go_wp2
        go_quiet ((go_at_call 13; exact (C' _).mono fun _ _ ⟨he, hm⟩ => ⟨he, _, hm⟩))
        go_wp2
        go_roundg (n - (j + 1))
        case measure => have := HG.out; omega
        case rel =>
          refine ⟨j + 1, by omega, by omega, rfl, ?_, ?_, ?_⟩
          · have q := (HBr.out.drewN nq).set 1 (.int .i64 (((j + 1 : Nat) : Nat) : Int))
            exact q
          · exact (HF.out.drewN _).setCell 1 _
          · intro k h1 h2
            by_cases e : k = j
            · rw [e, HGD.out, hs]
            · exact HA.out k h1 (by omega)
      | false =>
        rw [hs] at C'
        go_wp2
        go_quiet ((go_at_call 13; exact (C' _).mono fun _ _ ⟨he, hm⟩ => ⟨he, _, hm⟩))
        go_wp2
        go_end0
        exact ⟨rfl, j, ⟨hij, by omega, HA.out, fun _ => by rw [HGD.out, hs]⟩, HBr.out.drewN _, HF.out.drewN _⟩
    · go_wp2
      go_quiet (fail)
      go_wp2
      go_end0
      exact ⟨rfl, j, ⟨hij, by omega, HA.out, fun h => by omega⟩, HBr.out.drewN _, HF.out.drewN _⟩

/-- From i on: the spaces, then at most one comma with the spaces behind it. -/
def IsSep (xs : List Int) (i r : Nat) : Prop := ∃ s, IsSp xs i s ∧ s < xs.length ∧ (xs.getD s 0 = 44 ∧ IsSp xs (s + 1) r ∨ xs.getD s 0 ≠ 44 ∧ r = s)

set_option maxHeartbeats 1000000 in
/-- (*memberWalk).comma -/
theorem comma_any (mb b o n i : Nat) (s : ByteArray) (xs : List Int) (hx : xs.length = n) (hn : n ≤ 1048576) (hi : i ≤ n) (hne : b ≠ mb) (hdom : ∃ k, i ≤ k ∧ k < n ∧ sp (xs.getD k 0) = false) (w : World) (hB : Blk w mb (mcs b o n i s) 32)
    (HC : Hid (∀ k (hk : k < xs.length), w.cell? ⟨b, o + k, none⟩ = some (.int .u8 xs[k]))) :
    Calls Try.prog 11 #[.pointer (some ⟨mb, 0, none⟩)] w fun e w' => e = .returned (.tuple #[]) ∧ ∃ r, IsSep xs i r ∧ Blk w' mb (mcs b o n r s) 32 ∧ Fr w w' mb := by
  have C1 := space_any mb b o n i s xs hx hn hi hne w hB HC
  have HD : Hid (∃ k, i ≤ k ∧ k < n ∧ sp (xs.getD k 0) = false) := hdom
  clear hB hdom
  go_enter Try.func11, Try.ntmps11
  go_wp2_with fail
  refine C1.mono ?_
  rintro e w1 ⟨rfl, j, hj, hB1, hF1⟩
  have hlt : j < n := by
    obtain ⟨k, h1, h2, h3⟩ := HD.out
    apply Nat.lt_of_not_le
    intro h
    have := hj.2.2.1 k h1 (by omega)
    rw [h3] at this
    cases this
  have HJ : Hid (IsSp xs i j) := hj
  have HB1 : Hid (Blk w1 mb (mcs b o n j s) 32) := hB1
  have HF1 : Hid (Fr w w1 mb) := hF1
  have c0 : w1.cell? ⟨mb, 0, none⟩ = some (.slice (some ⟨b, o, none⟩) n n) := by rw [hB1.cell]; rfl
  have c1 : w1.cell? ⟨mb, 1, none⟩ = some (.int .i64 (j : Int)) := by rw [hB1.cell]; rfl
  have f1 : w1.frozen? ⟨mb, 1, none⟩ = false := hB1.free _
  clear hj hB1 hF1 C1
  have hkf : j < xs.length := by omega
  have g1 : w1.cell? ⟨b, o + j, none⟩ = some (.int .u8 xs[j]) := HF1.out.cell hne (HC.out j hkf)
  have i1 : (0 : Int) ≤ (j : Int) := by omega
  have i2 : (j : Int) < (n : Int) := by omega
  have hgd := getD_lt xs j hkf
  generalize hf : xs[j] = f at *
  have HGD : Hid (xs.getD j 0 = f) := hgd
  clear hf hgd
  by_cases h44 : f = 44
  · subst h44
    go_wp2_with fail
    go_quiet (fail)
    go_wp2_with fail
    have hF2 : Fr w ((w1.drewN nq).setCell ⟨mb, 1, none⟩ (.int .i64 ((j : Int) + 1))) mb := (HF1.out.drewN nq).setCell 1 _
    have C2 := space_any mb b o n (j + 1) s xs hx hn (by omega) hne ((w1.drewN nq).setCell ⟨mb, 1, none⟩ (.int .i64 ((j : Int) + 1))) ((HB1.out.drewN nq).set 1 (.int .i64 ((j : Int) + 1))) (fun k hk => hF2.cell hne (HC.out k hk))
    have HF2 : Hid (Fr w ((w1.drewN nq).setCell ⟨mb, 1, none⟩ (.int .i64 ((j : Int) + 1))) mb) := hF2
    clear hF2
    refine C2.mono ?_
    rintro e w2 ⟨rfl, r, hr, hB2, hF3⟩
    go_wp2_with fail
    go_end0
    exact ⟨rfl, r, ⟨j, HJ.out, hkf, .inl ⟨HGD.out, hr⟩⟩, hB2, HF2.out.trans hF3⟩
  · have k44 : (f == 44) = false := by simpa using h44
    go_wp2_with fail
    go_quiet (fail)
    go_wp2_with fail
    go_end0
    exact ⟨rfl, j, ⟨j, HJ.out, hkf, .inr ⟨by rw [HGD.out]; exact h44, rfl⟩⟩, HB1.out.drewN _, HF1.out.drewN _⟩

theorem results_tmp3 {fn : Func} {t u v : Tmp} (h : fn.results = #[.tmp t, .tmp u, .tmp v]) (tmps : Array Value) (P : Program) (w : World) :
    (results fn tmps).run P w = .ok (.tuple #[tmps.getD t undef, tmps.getD u undef, tmps.getD v undef]) w := by
  simp [results, h]

set_option maxHeartbeats 1000000 in
/-- ZZComma -/
theorem zcomma_any (b o n i : Nat) (s : ByteArray) (xs : List Int) (hx : xs.length = n) (hn : n ≤ 1048576) (hi : i ≤ n) (hdom : ∃ k, i ≤ k ∧ k < n ∧ sp (xs.getD k 0) = false) (w : World) (hb : b < w.heap.size)
    (HC : Hid (∀ k (hk : k < xs.length), w.cell? ⟨b, o + k, none⟩ = some (.int .u8 xs[k]))) :
    Calls Try.prog 7 #[.slice (some ⟨b, o, none⟩) n n, .int .i64 (i : Int), .string s] w fun e w' => (∃ r : Nat, e = .returned (.tuple #[.slice (some ⟨b, o, none⟩) n n, .int .i64 (r : Int), .string s]) ∧ IsSep xs i r) ∧ Below w.heap.size w w' := by
  have C := comma_any w.heap.size b o n i s xs hx hn hi (by omega) hdom (w.alloc (.cells (mcs b o n i s).toArray 32)) (Blk.new w _ 32) (fun k hk => cell_later ((Below.refl _ _).alloc (Nat.le_refl _) _) (HC.out k hk))
  have hA : Hid (Below w.heap.size w (w.alloc (.cells (mcs b o n i s).toArray 32))) := (Below.refl _ _).alloc (Nat.le_refl _) _
  clear HC hdom
  go_enter Try.func7, Try.ntmps7
  go_wp2_with fail
  refine C.mono ?_
  rintro e w1 ⟨rfl, r, hr, hB1, hF1⟩
  have HR : Hid (IsSep xs i r) := hr
  have HB1 : Hid (Below w.heap.size w w1) := hA.out.trans (hF1.below (Nat.le_refl _) (by simp))
  have c0 : w1.cell? ⟨w.heap.size, 0, none⟩ = some (.slice (some ⟨b, o, none⟩) n n) := by rw [hB1.cell]; rfl
  have c1 : w1.cell? ⟨w.heap.size, 1, none⟩ = some (.int .i64 (r : Int)) := by rw [hB1.cell]; rfl
  have c2 : w1.cell? ⟨w.heap.size, 2, none⟩ = some (.string s) := by rw [hB1.cell]; rfl
  clear hr hB1 hF1 C
  go_wp2_with fail
  go_quiet (fail)
  go_wp2_with fail
  refine bodyPost_ret (results_tmp3 rfl _ _ _) rfl ?_
  exact ⟨⟨r, rfl, HR.out⟩, below_drewN HB1.out _⟩

end Go.Proofs.Qxb6623341a
