/-
  THE WALKS of the bounds on total length, laid by program: zzBytes (29).
-/
import Derived.Test.Qxb6620837aStrs
namespace Go.Proofs.Qxb6620837a
open Go.RowKit

set_option maxHeartbeats 1000000 in
theorem bytes29 (ao1 : Option Addr) (n1 ca1 : Nat) (m1 : n1 ≤ 9223372036854775807) (xs1 : List ByteArray) (hx1 : xs1.length = n1) (ao2 : Option Addr) (n2 ca2 : Nat) (m2 : n2 ≤ 9223372036854775807) (xs2 : List ByteArray) (hx2 : xs2.length = n2) (ao7 : Option Addr) (n7 ca7 : Nat) (m7 : n7 ≤ 9223372036854775807) (x_0 x_3 x_4 x_5 x_6 : Value) (w : World) (h1 : StrsAt w ao1 xs1) (h2 : StrsAt w ao2 xs2) :
    Calls Try.prog 29 #[x_0, .slice ao1 n1 ca1, .slice ao2 n2 ca2, x_3, x_4, x_5, x_6, .slice ao7 n7 ca7] w fun e w' => IsBool e ∧ w' = w := by
  by_cases p0 : n1 ≤ 1048576
  · go_enter Try.func29, Try.ntmps29
    go_wp2
    go_loop [17, 18] (fun s i => ∃ k t : Nat, k ≤ n1 ∧ i = .int .i64 k ∧ s = .int .i64 t ∧ t ≤ 1048576) (fun _ i => n1 - (intOf i).toNat)
    case atStart => exact ⟨0, n1, Nat.zero_le _, rfl, by go_num, by omega⟩
    case round =>
      obtain ⟨k0, t0, hk0, rfl, rfl, ht0⟩ := hrel
      by_cases hlt0 : k0 < n1
      · obtain ⟨b, o, rfl, c1⟩ := h1.at (by omega)
        have g1 := c1 k0 (by omega)
        rw [getS_lt _ _ (by omega)] at g1
        generalize xs1[k0] = x at *
        clear c1
        have i1 : (0 : Int) ≤ (k0 : Int) := by omega
        have i2 : (k0 : Int) < (n1 : Int) := by omega
        by_cases c2 : x.size ≤ 1048576
        · by_cases c3 : t0 + x.size ≤ 1048576
          · go_wp2
            go_round
            case rel => exact ⟨k0 + 1, t0 + x.size, by omega, by go_num, by go_num, by omega⟩
            case measure => simp [intOf]; omega
          · go_wp2
            go_ret
            exact ⟨isBool_mk _, rfl⟩
        · go_wp2
          go_ret
          exact ⟨isBool_mk _, rfl⟩
      · by_cases p1 : n2 ≤ 1048576
        · by_cases q1 : t0 + n2 ≤ 1048576
          · go_wp2
            go_loop [17, 19] (fun s i => ∃ k t : Nat, k ≤ n2 ∧ i = .int .i64 k ∧ s = .int .i64 t ∧ t ≤ 1048576) (fun _ i => n2 - (intOf i).toNat)
            case atStart => exact ⟨0, t0 + n2, Nat.zero_le _, rfl, by go_num, by omega⟩
            case round =>
              obtain ⟨k1, t1, hk1, rfl, rfl, ht1⟩ := hrel
              by_cases hlt1 : k1 < n2
              · obtain ⟨b, o, rfl, c1⟩ := h2.at (by omega)
                have g1 := c1 k1 (by omega)
                rw [getS_lt _ _ (by omega)] at g1
                generalize xs2[k1] = x at *
                clear c1
                have i1 : (0 : Int) ≤ (k1 : Int) := by omega
                have i2 : (k1 : Int) < (n2 : Int) := by omega
                by_cases c2 : x.size ≤ 1048576
                · by_cases c3 : t1 + x.size ≤ 1048576
                  · go_wp2
                    go_round
                    case rel => exact ⟨k1 + 1, t1 + x.size, by omega, by go_num, by go_num, by omega⟩
                    case measure => simp [intOf]; omega
                  · go_wp2
                    go_ret
                    exact ⟨isBool_mk _, rfl⟩
                · go_wp2
                  go_ret
                  exact ⟨isBool_mk _, rfl⟩
              · by_cases p2 : n7 ≤ 1048576
                · by_cases q2 : t1 + n7 ≤ 1048576
                  · go_wp2
                    go_ret
                    exact ⟨isBool_mk _, rfl⟩
                  · go_wp2
                    go_ret
                    exact ⟨isBool_mk _, rfl⟩
                · go_wp2
                  go_ret
                  exact ⟨isBool_mk _, rfl⟩
          · go_wp2
            go_ret
            exact ⟨isBool_mk _, rfl⟩
        · go_wp2
          go_ret
          exact ⟨isBool_mk _, rfl⟩
  · go_enter Try.func29, Try.ntmps29
    go_wp2
    go_ret
    exact ⟨isBool_mk _, rfl⟩

end Go.Proofs.Qxb6620837a
