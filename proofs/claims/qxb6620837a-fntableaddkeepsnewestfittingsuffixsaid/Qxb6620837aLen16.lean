/-
  THE WALKS of the bounds on total length, laid by program: zzBytes (16).
-/
import Derived.Test.Qxb6620837aStrs
namespace Go.Proofs.Qxb6620837a
open Go.RowKit

set_option maxHeartbeats 1000000 in
theorem bytes16 (ao0 : Option Addr) (n0 ca0 : Nat) (m0 : n0 ≤ 9223372036854775807) (xs0 : List ByteArray) (hx0 : xs0.length = n0) (ao1 : Option Addr) (n1 ca1 : Nat) (m1 : n1 ≤ 9223372036854775807) (xs1 : List ByteArray) (hx1 : xs1.length = n1) (s4 : ByteArray) (s5 : ByteArray) (x_2 x_3 : Value) (w : World) (h0 : StrsAt w ao0 xs0) (h1 : StrsAt w ao1 xs1) :
    Calls Try.prog 16 #[.slice ao0 n0 ca0, .slice ao1 n1 ca1, x_2, x_3, .string s4, .string s5] w fun e w' => IsBool e ∧ w' = w := by
  by_cases p0 : n0 ≤ 1048576
  · go_enter Try.func16, Try.ntmps16
    go_wp2
    go_loop [13, 14] (fun s i => ∃ k t : Nat, k ≤ n0 ∧ i = .int .i64 k ∧ s = .int .i64 t ∧ t ≤ 1048576) (fun _ i => n0 - (intOf i).toNat)
    case atStart => exact ⟨0, n0, Nat.zero_le _, rfl, by go_num, by omega⟩
    case round =>
      obtain ⟨k0, t0, hk0, rfl, rfl, ht0⟩ := hrel
      by_cases hlt0 : k0 < n0
      · obtain ⟨b, o, rfl, c1⟩ := h0.at (by omega)
        have g1 := c1 k0 (by omega)
        rw [getS_lt _ _ (by omega)] at g1
        generalize xs0[k0] = x at *
        clear c1
        have i1 : (0 : Int) ≤ (k0 : Int) := by omega
        have i2 : (k0 : Int) < (n0 : Int) := by omega
        by_cases c2 : x.size ≤ 1048576
        · by_cases c3 : t0 + x.size ≤ 1048576
          · go_wp2
            go_round
            case rel => exact ⟨k0 + 1, t0 + x.size, by omega, by go_num, by go_num, by omega⟩
            case measure => simp [intOf]; omega
          · go_wp2
            go_ret
            exact ⟨isBool_mk _, rfl⟩
        · go_wp2
          go_ret
          exact ⟨isBool_mk _, rfl⟩
      · by_cases p1 : n1 ≤ 1048576
        · by_cases q1 : t0 + n1 ≤ 1048576
          · go_wp2
            go_loop [13, 15] (fun s i => ∃ k t : Nat, k ≤ n1 ∧ i = .int .i64 k ∧ s = .int .i64 t ∧ t ≤ 1048576) (fun _ i => n1 - (intOf i).toNat)
            case atStart => exact ⟨0, t0 + n1, Nat.zero_le _, rfl, by go_num, by omega⟩
            case round =>
              obtain ⟨k1, t1, hk1, rfl, rfl, ht1⟩ := hrel
              by_cases hlt1 : k1 < n1
              · obtain ⟨b, o, rfl, c1⟩ := h1.at (by omega)
                have g1 := c1 k1 (by omega)
                rw [getS_lt _ _ (by omega)] at g1
                generalize xs1[k1] = x at *
                clear c1
                have i1 : (0 : Int) ≤ (k1 : Int) := by omega
                have i2 : (k1 : Int) < (n1 : Int) := by omega
                by_cases c2 : x.size ≤ 1048576
                · by_cases c3 : t1 + x.size ≤ 1048576
                  · go_wp2
                    go_round
                    case rel => exact ⟨k1 + 1, t1 + x.size, by omega, by go_num, by go_num, by omega⟩
                    case measure => simp [intOf]; omega
                  · go_wp2
                    go_ret
                    exact ⟨isBool_mk _, rfl⟩
                · go_wp2
                  go_ret
                  exact ⟨isBool_mk _, rfl⟩
              · by_cases p2 : s4.size ≤ 1048576
                · by_cases q2 : t1 + s4.size ≤ 1048576
                  · by_cases p3 : s5.size ≤ 1048576
                    · by_cases q3 : (t1 + s4.size) + s5.size ≤ 1048576
                      · go_wp2
                        go_ret
                        exact ⟨isBool_mk _, rfl⟩
                      · go_wp2
                        go_ret
                        exact ⟨isBool_mk _, rfl⟩
                    · go_wp2
                      go_ret
                      exact ⟨isBool_mk _, rfl⟩
                  · go_wp2
                    go_ret
                    exact ⟨isBool_mk _, rfl⟩
                · go_wp2
                  go_ret
                  exact ⟨isBool_mk _, rfl⟩
          · go_wp2
            go_ret
            exact ⟨isBool_mk _, rfl⟩
        · go_wp2
          go_ret
          exact ⟨isBool_mk _, rfl⟩
  · go_enter Try.func16, Try.ntmps16
    go_wp2
    go_ret
    exact ⟨isBool_mk _, rfl⟩

end Go.Proofs.Qxb6620837a
