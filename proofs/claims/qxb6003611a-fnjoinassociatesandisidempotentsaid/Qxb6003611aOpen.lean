/-
  Seat b6003611a: AN ARGUMENT []ZZEntry, OPENED.
-/
import Derived.Test.Qxb6003611aLeaves
import Derived.ProofKit
import Derived.OpenShut
import Derived.ChangeOld
import Derived.Deep.SlicePairs
namespace Go.Proofs.Qxb6003611a
open Go.ChangeShapes Go.WideShapes Go.ChangeAt Go.RowKit Go.Deep

theorem own : ownKnob Try.prog.godebug = none := by kernel_rfl
theorem laidOut : laidOutB Try.prog = true := by kernel_rfl
theorem cells35 : Try.prog.cellsOf 35 = 2 := by kernel_rfl
theorem cells9 : Try.prog.cellsOf 9 = 1 := by kernel_rfl
theorem cells33 : Try.prog.cellsOf 33 = 1 := by kernel_rfl

theorem open_ents {H : Type} {enc : TypeId × Value → H} {W : World} {base : Nat} {v : Value} {d : DataW H} {p : List MemPlace} (hval : Value.okWide Try.prog W .any base 22 v) (h : DataW.Trod enc Try.prog W 0 (fun _ => true) true 22 v d p) :
    ∃ (a : Option Addr) (len cap : Nat) (N : Nat → ByteArray) (S : Nat → Int), v = .slice a len cap ∧ Ents W a len N S ∧ len ≤ maxLen ∧ (a = none → len = 0 ∧ cap = 0) := by
  obtain ⟨a, len, cap, rfl⟩ := okWide_slice Try.underlying22 hval
  obtain ⟨fuel, hf⟩ := h
  rcases open_slice_pairs Try.underlying22 Try.underlying35 cells35 rfl rfl cells9 cells33 hf with ⟨hcs, _⟩ | ⟨x, len', cap', m, n, V0, V1, D0, D1, P0, P1, hcs, _, hl, hm, hmm, _, hall⟩
  · simp [Value.cells] at hcs
    obtain ⟨rfl, rfl, rfl⟩ := hcs
    exact ⟨none, 0, 0, fun _ => ByteArray.empty, fun _ => 0, rfl, .inl rfl, Nat.zero_le _, fun _ => ⟨rfl, rfl⟩⟩
  · simp [Value.cells] at hcs
    obtain ⟨rfl, rfl, rfl⟩ := hcs
    simp only [if_true] at hmm
    subst hmm
    refine ⟨some x, len, m, fun i => match V0 i with | .string s => s | _ => ByteArray.empty, fun i => match V1 i with | .int _ q => q | _ => 0, rfl, ?_, by omega, fun h => by cases h⟩
    by_cases hz : len = 0
    · exact .inl hz
    · obtain ⟨b, off, spot⟩ := x
      have hspot : spot = none := by simpa [Addr.add] using World.cell?_spot (hall 0 (by omega)).1
      subst hspot
      have hblk : b < W.heap.size := by
        have h0 := (hall 0 (by omega)).1
        simp only [Addr.add, World.cell?] at h0
        cases hh : W.heap[b]? with
        | none => simp [hh] at h0
        | some o => exact (Array.getElem?_eq_some_iff.1 hh).1
      refine .inr ⟨b, off, rfl, hblk, fun i hi => ?_⟩
      obtain ⟨c0, c1, t0, t1⟩ := hall i (by omega)
      obtain ⟨s, e0, _, hs⟩ := DataW.trod_string Try.underlying9 t0
      obtain ⟨q, e1, _, hw⟩ := DataW.trod_int Try.underlying33 t1
      simp only [List.cons.injEq, and_true] at e0 e1
      rw [Go.WideShapes.add_plain] at c0 c1
      rw [e0] at c0
      rw [e1] at c1
      simp only [e0, e1]
      obtain ⟨g0, g1⟩ := u64_wf hw
      exact ⟨c0, by rw [Nat.add_assoc]; exact c1, hs, g0, g1⟩
end Go.Proofs.Qxb6003611a
