/-
  Seat b6003611a: zzAgree, zzSame, zzPutSame, WALKED.
-/
import Derived.Test.Qxb6003611aMeet
namespace Go.Proofs.Qxb6003611a
open Go.RowKit Go.Maps

set_option maxRecDepth 100000 in
theorem agree_any (b1 b2 n1 n2 : Nat) (f : Lit → Option Int) (a : Option Addr) (len cap : Nat) (N : Nat → ByteArray) (S : Nat → Int) (w : World) (hg : OM Try.prog 9 33 w b1 n1 f) (hw : OM Try.prog 9 33 w b2 n2 f) (h : Ents w a len N S) (hlen : len ≤ 1048576) :
    Calls Try.prog 26 #[.map (some b1), .map (some b2), .slice a len cap] w fun e w' => e = .returned (.bool true) ∧ w' = w := by
  rcases h with rfl | ⟨b, off, rfl, hlt, h⟩
  · go_enter Try.func26, Try.ntmps26
    go_wp2
    refine wp_loop_rounds 1 ?_
    rw [rounds_succ]
    go_wp2
    go_ret
    exact ⟨rfl, rfl⟩
  · go_enter Try.func26, Try.ntmps26
    go_wp2
    go_loop [7] (fun i => ∃ k : Nat, k ≤ len ∧ i = .int .i64 k) (fun i => len - (intOf i).toNat)
    case atStart => exact ⟨0, Nat.zero_le _, rfl⟩
    case round =>
      obtain ⟨k, hk, rfl⟩ := hrel
      by_cases hlk : k < len
      · obtain ⟨h1, _, h3, _⟩ := h k hlk
        have l1 := hg.look_ok (t := 25) Try.underlying9 Try.underlying33 Try.underlying25 (zero33 _) h3
        have l2 := hw.look_ok (t := 25) Try.underlying9 Try.underlying33 Try.underlying25 (zero33 _) h3
        clear h
        cases hf : (f (kS (N k))).isSome with
        | true =>
          rw [hf] at l1 l2
          clear hf
          go_wp2
          go_round
          case rel => exact ⟨k + 1, by omega, by go_num⟩
          case measure => simp [intOf]; omega
        | false =>
          rw [hf] at l1 l2
          clear hf
          go_wp2
          go_round
          case rel => exact ⟨k + 1, by omega, by go_num⟩
          case measure => simp [intOf]; omega
      · go_wp2
        go_ret
        exact ⟨rfl, rfl⟩

set_option maxRecDepth 100000 in
theorem same_any (b1 b2 n1 n2 : Nat) (f : Lit → Option Int) (a0 a1 a2 : Option Addr) (len0 len1 len2 cap0 cap1 cap2 : Nat) (N0 N1 N2 : Nat → ByteArray) (S0 S1 S2 : Nat → Int) (w : World)
    (hg : OM Try.prog 9 33 w b1 n1 f) (hw : OM Try.prog 9 33 w b2 n2 f) (h0 : Ents w a0 len0 N0 S0) (h1 : Ents w a1 len1 N1 S1) (h2 : Ents w a2 len2 N2 S2) (l0 : len0 ≤ 1048576) (l1 : len1 ≤ 1048576) (l2 : len2 ≤ 1048576) :
    Calls Try.prog 14 #[.map (some b1), .map (some b2), .slice a0 len0 cap0, .slice a1 len1 cap1, .slice a2 len2 cap2] w fun e w' => e = .returned (.bool true) ∧ w' = w := by
  have hg' := hg
  have hw' := hw
  obtain ⟨_, D1, hD1, hV1⟩ := hg'
  obtain ⟨_, D2, hD2, hV2⟩ := hw'
  obtain rfl : D1 = D2 := vw_ext hV1 hV2 (hD1.canon (string_keyed Try.underlying9)) (hD2.canon (string_keyed Try.underlying9))
  have r1 := fun ty => hD1.len Try.underlying25 ty
  have r2 := fun ty => hD2.len Try.underlying25 ty
  clear hD1 hD2 hV1 hV2
  go_enter Try.func14, Try.ntmps14
  go_wp2_with fail
  refine (agree_any b1 b2 n1 n2 f a0 len0 cap0 N0 S0 w hg hw h0 l0).mono ?_
  rintro e w' ⟨rfl, rfl⟩
  go_wp2_with fail
  refine (agree_any b1 b2 n1 n2 f a1 len1 cap1 N1 S1 _ hg hw h1 l1).mono ?_
  rintro e w' ⟨rfl, rfl⟩
  go_wp2_with fail
  refine (agree_any b1 b2 n1 n2 f a2 len2 cap2 N2 S2 _ hg hw h2 l2).mono ?_
  rintro e w' ⟨rfl, rfl⟩
  go_wp2
  go_ret
  exact ⟨rfl, rfl⟩
end Go.Proofs.Qxb6003611a
