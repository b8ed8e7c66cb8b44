/-
  Seat b6003611a: THE SMALL FUNCTIONS' CONTRACTS.
-/
import Derived.Test.Qxb6003611aRows
import Derived.Test.Qxb6003611aLaws
import Derived.WalkKit
import Derived.StillTailTactics
import Derived.Lib.SliceRun
namespace Go.Proofs.Qxb6003611a
open Go.RowKit Go.Maps

/-- A slice of len entries: their keys N i, their numbers S i. -/
def Ents (w : World) (a : Option Addr) (len : Nat) (N : Nat → ByteArray) (S : Nat → Int) : Prop :=
  len = 0 ∨ ∃ b off, a = some ⟨b, off, none⟩ ∧ b < w.heap.size ∧ ∀ i, i < len → w.cell? ⟨b, off + i * 2, none⟩ = some (.string (N i)) ∧ w.cell? ⟨b, off + i * 2 + 1, none⟩ = some (.int .u64 (S i)) ∧ (N i).size ≤ maxLen ∧ 0 ≤ S i ∧ S i ≤ 18446744073709551615

theorem Ents.below {w w' : World} {a : Option Addr} {len : Nat} {N : Nat → ByteArray} {S : Nat → Int} (h : Ents w a len N S) (hb : Below w.heap.size w w') : Ents w' a len N S := by
  rcases h with h | ⟨b, off, rfl, hlt, h⟩
  · exact .inl h
  · refine .inr ⟨b, off, rfl, Nat.lt_of_lt_of_le hlt hb.size, fun i hi => ?_⟩
    obtain ⟨h1, h2, h3⟩ := h i hi
    exact ⟨(hb.cell (by exact hlt)).trans h1, (hb.cell (by exact hlt)).trans h2, h3⟩

theorem size_any (a : Option Addr) (len cap : Nat) (N : Nat → ByteArray) (S : Nat → Int) (start : Int) (w : World) (h : Ents w a len N S) (hlen : len ≤ 1048576) :
    Calls Try.prog 10 #[.slice a len cap, .int .i64 start] w fun e w' => (∃ z, e = .returned (.int .i64 z)) ∧ w' = w := by
  rcases h with rfl | ⟨b, off, rfl, hlt, h⟩
  · go_enter Try.func10, Try.ntmps10
    go_wp2
    refine wp_loop_rounds 1 ?_
    rw [rounds_succ]
    go_wp2
    go_ret
    exact ⟨⟨_, rfl⟩, rfl⟩
  · go_enter Try.func10, Try.ntmps10
    go_wp2
    go_loop [5, 6] (fun n i => ∃ (k : Nat) (z : Int), k ≤ len ∧ i = .int .i64 k ∧ n = .int .i64 z) (fun _ i => len - (intOf i).toNat)
    case atStart => exact ⟨0, _, Nat.zero_le _, rfl, rfl⟩
    case round =>
      obtain ⟨k, z, hk, rfl, rfl⟩ := hrel
      by_cases hlt : k < len
      · obtain ⟨h1, h2, h3, h4⟩ := h k hlt
        go_wp2
        · go_ret
          exact ⟨⟨_, rfl⟩, rfl⟩
        · go_round
          case rel => exact ⟨k + 1, _, by omega, by go_num, rfl⟩
          case measure => simp [intOf]; omega
      · go_wp2
        go_ret
        exact ⟨⟨_, rfl⟩, rfl⟩

theorem ret_int {k : IntKind} {a b : Int} (h : a = b) : Ending.returned (.int k a) = .returned (.int k b) := by rw [h]

theorem min_any (x y : Int) (w : World) : Calls Try.prog 19 #[.int .u64 x, .int .u64 y] w fun e w' => e = .returned (.int .u64 (min x y)) ∧ w' = w := by
  by_cases h : x < y
  · go_enter Try.func19, Try.ntmps19
    go_wp2
    go_ret
    exact ⟨ret_int (by omega), rfl⟩
  · go_enter Try.func19, Try.ntmps19
    go_wp2
    go_ret
    exact ⟨ret_int (by omega), rfl⟩

theorem max_any (x y : Int) (w : World) : Calls Try.prog 23 #[.int .u64 x, .int .u64 y] w fun e w' => e = .returned (.int .u64 (max x y)) ∧ w' = w := by
  by_cases h : y < x
  · go_enter Try.func23, Try.ntmps23
    go_wp2
    go_ret
    exact ⟨ret_int (by omega), rfl⟩
  · go_enter Try.func23, Try.ntmps23
    go_wp2
    go_ret
    exact ⟨ret_int (by omega), rfl⟩

theorem run_build_nil (w : World) (a : Option Addr) (n c : Nat) : (binOp .eql 22 (.slice a n c) (.slice none 0 0)).run Try.prog w = .ok (.bool a.isNone) w := Lib.run_eql_slice_nil w 22 35 a n c 0 0 Try.underlying22

theorem build_nil (w : World) : Calls Try.prog 11 #[.slice none 0 0] w fun e w' => e = .returned (.map none) ∧ w' = w := by
  have hnil := run_build_nil w
  go_enter Try.func11, Try.ntmps11
  go_wp2
  go_ret
  exact ⟨rfl, rfl⟩

theorem build_some (ad : Addr) (len cap : Nat) (N : Nat → ByteArray) (S : Nat → Int) (w : World) (h : Ents w (some ad) len N S) (hlen : len ≤ 1048576) :
    Calls Try.prog 11 #[.slice (some ad) len cap] w fun e w' => e = .returned (.map (some w.heap.size)) ∧ OM Try.prog 9 33 w' w.heap.size len (bld N S len) ∧ Below w.heap.size w w' := by
  have hmm := @run_makeMap Try.prog
  have hnil := run_build_nil w
  rcases h with rfl | ⟨b, off, e0, hlt, h⟩
  · go_enter Try.func11, Try.ntmps11
    go_wp2
    refine wp_loop_rounds 1 ?_
    rw [rounds_succ]
    go_wp2
    go_ret
    exact ⟨rfl, om_made _ _ _ _, (Below.refl _ _).alloc (Nat.le_refl _) _⟩
  · cases e0
    go_enter Try.func11, Try.ntmps11
    go_wp2
    go_loopw [4] (fun i wr => ∃ k : Nat, k ≤ len ∧ i = .int .i64 k ∧ OM Try.prog 9 33 wr w.heap.size k (bld N S k) ∧ Below w.heap.size w wr) (fun i _ => len - (intOf i).toNat)
    case atStart => exact ⟨0, Nat.zero_le _, rfl, om_made _ _ _ _, (Below.refl _ _).alloc (Nat.le_refl _) _⟩
    case round =>
      obtain ⟨k, hk, rfl, hown, hnx⟩ := hrel
      by_cases hlk : k < len
      · obtain ⟨h1, h2, h3, h4, h5⟩ := h k hlk
        have c1 : wr.cell? ⟨b, off + k * 2, none⟩ = some (.string (N k)) := (hnx.cell (by exact hlt)).trans h1
        have c2 : wr.cell? ⟨b, off + k * 2 + 1, none⟩ = some (.int .u64 (S k)) := (hnx.cell (by exact hlt)).trans h2
        clear h1 h2 h
        go_wp2
        go_still_tail 11, (by kernel_rfl)
        refine wpList_put (P := Try.prog) (k := 9) (e := 33) _ rfl _ _ _ 26 rfl Try.underlying9 Try.underlying33 Try.underlying26 w.heap.size k (bld N S k) rfl (hown.block rfl) (by unfold maxLen; omega) (N k) (S k) rfl rfl h3 h4 h5 ?_
        intro w1 hown1 hgrow1
        go_wp2
        go_roundw
        case rel => exact ⟨k + 1, by omega, by go_num, hown1, hnx.drew.grown hgrow1 hnx.size (fun j hj => by cases hj; exact Nat.le_refl _)⟩
        case measure => simp [intOf]; omega
      · have : k = len := by omega
        subst this
        go_wp2
        go_ret
        exact ⟨rfl, hown, hnx⟩
end Go.Proofs.Qxb6003611a
