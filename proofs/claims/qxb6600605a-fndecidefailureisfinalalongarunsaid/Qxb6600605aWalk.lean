/-
  Seat b6600605a: ZZDecide with decide, the bound on lengths, and FnDecideFailureIsFinalAlongARun, WALKED.
-/
import Derived.Test.Qxb6600605aRows
import Derived.WalkKit
import Derived.WalkSpells
import Derived.Lib.SliceRun
namespace Go.Proofs.Qxb6600605a
open Go.RowKit

/-- the verdict: 2 failed, 1 succeeded, 0 open -/
def dec (tol total c f : Int) : Int := if tol * total < f * 1000000 then 2 else if c + f = total then 1 else 0

theorem ret_int {k : IntKind} {a b : Int} (h : a = b) : Ending.returned (.int k a) = .returned (.int k b) := by rw [h]

theorem mul_bd {tol total : Int} (h0 : 0 ≤ tol) (h1 : tol ≤ 1000000) (t0 : 0 ≤ total) (t1 : total ≤ 1048576) : 0 ≤ tol * total ∧ tol * total ≤ 1048576000000 := by
  refine ⟨Int.mul_nonneg h0 t0, ?_⟩
  have := Int.mul_le_mul h1 t1 t0 (by omega : (0 : Int) ≤ 1000000)
  omega

theorem decide_any (tol total c f : Int) (w : World) (h0 : 0 ≤ tol) (h1 : tol ≤ 1000000) (t0 : 0 ≤ total) (t1 : total ≤ 1048576) (c0 : 0 ≤ c) (c1 : c ≤ 1048576) (f0 : 0 ≤ f) (f1 : f ≤ 1048576) :
    Calls Try.prog 5 #[.int .i64 tol, .int .i64 total, .int .i64 c, .int .i64 f] w fun e w' => e = .returned (.int .u8 (dec tol total c f)) ∧ Below w.heap.size w w' := by
  obtain ⟨p0, p1⟩ := mul_bd h0 h1 t0 t1
  by_cases hf : tol * total < f * 1000000
  · have hd : dec tol total c f = 2 := by unfold dec; rw [if_pos hf]
    have HD : Hid (dec tol total c f = 2) := hd
    clear hd
    go_enter Try.func5, Try.ntmps5
    go_wp2
    go_ret
    exact ⟨ret_int HD.out.symm, (Below.refl _ _).alloc (Nat.le_refl _) _⟩
  · by_cases hs : c + f = total
    · have hd : dec tol total c f = 1 := by unfold dec; rw [if_neg hf, if_pos hs]
      have HD : Hid (dec tol total c f = 1) := hd
      have hb : (c + f == total) = true := by simpa using hs
      clear hd hs
      go_enter Try.func5, Try.ntmps5
      go_wp2
      go_ret
      exact ⟨ret_int HD.out.symm, (Below.refl _ _).alloc (Nat.le_refl _) _⟩
    · have hd : dec tol total c f = 0 := by unfold dec; rw [if_neg hf, if_neg hs]
      have HD : Hid (dec tol total c f = 0) := hd
      have hb : (c + f == total) = false := by simpa using hs
      clear hd hs
      go_enter Try.func5, Try.ntmps5
      go_wp2
      go_ret
      exact ⟨ret_int HD.out.symm, (Below.refl _ _).alloc (Nat.le_refl _) _⟩

/-- it answers a bool -/
def AnswersB (e : Ending) : Prop := ∃ r, e = .returned (.bool r)
theorem ansB (r : Bool) : AnswersB (.returned (.bool r)) := ⟨r, rfl⟩
theorem bytes6 (tol : Int) (a : Option Addr) (len cap : Nat) (w : World) (m : len ≤ maxLen) : Calls Try.prog 6 #[.int .i64 tol, .slice a len cap] w fun e w' => AnswersB e ∧ w' = w := by
  unfold maxLen at m
  go_enter Try.func6, Try.ntmps6
  go_wp2
  all_goals
    go_ret
    exact ⟨ansB _, rfl⟩
end Go.Proofs.Qxb6600605a
