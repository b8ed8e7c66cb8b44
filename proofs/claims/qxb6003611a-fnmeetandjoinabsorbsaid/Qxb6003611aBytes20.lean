/-
  Seat b6003611a: the bound on lengths, of function 20.
-/
import Derived.Test.Qxb6003611aBytes
namespace Go.Proofs.Qxb6003611a
open Go.RowKit Go.Maps

set_option maxRecDepth 100000 in
set_option maxHeartbeats 1000000 in
theorem bytes20 (a0 a1 : Option Addr) (len0 len1 cap0 cap1 : Nat) (N0 N1 : Nat → ByteArray) (S0 S1 : Nat → Int) (w : World) (h0 : Ents w a0 len0 N0 S0) (m0 : len0 ≤ maxLen) (h1 : Ents w a1 len1 N1 S1) (m1 : len1 ≤ maxLen) :
    Calls Try.prog 20 #[.slice a0 len0 cap0, .slice a1 len1 cap1] w fun e w' => Answers e (len0 ≤ 1048576 ∧ len1 ≤ 1048576) ∧ w' = w := by
  unfold maxLen at m0 m1
  by_cases l0 : len0 ≤ 1048576
  · go_enter Try.func20, Try.ntmps20
    go_wp2
    go_loop [5, 6] (fun n i => ∃ (k : Nat) (z : Int), k ≤ len0 ∧ i = .int .i64 k ∧ n = .int .i64 z ∧ 0 ≤ z ∧ z ≤ 1048576) (fun _ i => len0 - (intOf i).toNat)
    case atStart => exact ⟨0, _, Nat.zero_le _, rfl, rfl, by omega, by omega⟩
    case round =>
      obtain ⟨k0, z0, hk0, rfl, rfl, hp0, hq0⟩ := hrel
      by_cases hlk : k0 < len0
      · obtain ⟨b, off, ea, hc⟩ := h0.cells k0 hlk
        subst ea
        obtain ⟨c1, _, c3, _⟩ := hc
        unfold maxLen at c3
        go_wp2
        · go_ret
          exact ⟨ans_false, rfl⟩
        · go_ret
          exact ⟨ans_false, rfl⟩
        · go_round
          case rel => exact ⟨k0 + 1, _, by omega, by go_num, rfl, by omega, by omega⟩
          case measure => simp [intOf]; omega
      · by_cases l1 : len1 ≤ 1048576
        · by_cases s1 : z0 + len1 ≤ 1048576
          · go_wp2
            go_loop [5, 7] (fun n i => ∃ (k : Nat) (z : Int), k ≤ len1 ∧ i = .int .i64 k ∧ n = .int .i64 z ∧ 0 ≤ z ∧ z ≤ 1048576) (fun _ i => len1 - (intOf i).toNat)
            case atStart => exact ⟨0, _, Nat.zero_le _, rfl, rfl, by omega, by omega⟩
            case round =>
              obtain ⟨k1, z1, hk1, rfl, rfl, hp1, hq1⟩ := hrel
              by_cases hlk : k1 < len1
              · obtain ⟨b, off, ea, hc⟩ := h1.cells k1 hlk
                subst ea
                obtain ⟨c1, _, c3, _⟩ := hc
                unfold maxLen at c3
                go_wp2
                · go_ret
                  exact ⟨ans_false, rfl⟩
                · go_ret
                  exact ⟨ans_false, rfl⟩
                · go_round
                  case rel => exact ⟨k1 + 1, _, by omega, by go_num, rfl, by omega, by omega⟩
                  case measure => simp [intOf]; omega
              · go_wp2
                go_ret
                exact ⟨ans_true (by first | trivial | exact ⟨l0, l1⟩), rfl⟩
          · go_wp2
            go_ret
            exact ⟨ans_false, rfl⟩
        · go_wp2
          go_ret
          exact ⟨ans_false, rfl⟩
  · go_enter Try.func20, Try.ntmps20
    go_wp2
    go_ret
    exact ⟨ans_false, rfl⟩

end Go.Proofs.Qxb6003611a
