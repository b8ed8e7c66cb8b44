/-
  Seat b6600605a: FnDecideFailureIsFinalAlongARun: THE STATEMENT, PROVED.
-/
import Derived.Test.Qxb6600605aRun
import Derived.ProofKit
import Derived.OpenShut
import Derived.ChangeOld
import Derived.Deep.Slices
namespace Go.Proofs.Qxb6600605a
open Go.ChangeShapes Go.WideShapes Go.ChangeAt Go.RowKit Go.Deep

theorem own : ownKnob Try.prog.godebug = none := by kernel_rfl
theorem laidOut : laidOutB Try.prog = true := by kernel_rfl
theorem cells4 : Try.prog.cellsOf 4 = 1 := by kernel_rfl

theorem open_bools {H : Type} {enc : TypeId × Value → H} {W : World} {base : Nat} {v : Value} {d : DataW H} {p : List MemPlace} (hval : Value.okWide Try.prog W .any base 24 v) (h : DataW.Trod enc Try.prog W 0 (fun _ => true) true 24 v d p) :
    ∃ (a : Option Addr) (len cap : Nat) (bs : List Bool), v = .slice a len cap ∧ Rb W a len bs ∧ len ≤ maxLen ∧ (a = none → len = 0 ∧ cap = 0) := by
  obtain ⟨a, len, cap, rfl⟩ := okWide_slice Try.underlying24 hval
  obtain ⟨fuel, hf⟩ := h
  rcases open_slice1 Try.underlying24 cells4 hf with ⟨hcs, _⟩ | ⟨x, len', cap', m, n, V, D, Pl, hcs, _, hl, hm, hmm, _, hall⟩
  · simp [Value.cells] at hcs
    obtain ⟨rfl, rfl, rfl⟩ := hcs
    exact ⟨none, 0, 0, [], rfl, ⟨rfl, .inl rfl⟩, Nat.zero_le _, fun _ => ⟨rfl, rfl⟩⟩
  · simp [Value.cells] at hcs
    obtain ⟨rfl, rfl, rfl⟩ := hcs
    simp only [if_true] at hmm
    subst hmm
    refine ⟨some x, len, m, (List.range len).map (fun i => match V i with | .bool z => z | _ => false), rfl, ⟨by simp, ?_⟩, by omega, fun h => by cases h⟩
    by_cases hz : len = 0
    · exact .inl hz
    · obtain ⟨b, off, spot⟩ := x
      have hspot : spot = none := by simpa [Addr.add] using World.cell?_spot (hall 0 (by omega)).1
      subst hspot
      have hblk : b < W.heap.size := World.block_lt_of_cell? W _ (by simpa [Addr.add] using (hall 0 (by omega)).1)
      refine .inr ⟨b, off, rfl, hblk, fun i hi => ?_⟩
      obtain ⟨c0, t0⟩ := hall i (by omega)
      obtain ⟨z, e0, _⟩ := DataW.trod_bool Try.underlying4 t0
      simp only [List.cons.injEq, and_true] at e0
      rw [Go.WideShapes.add_plain, e0] at c0
      rw [c0]
      simp [List.getD, hi, e0]

set_option maxRecDepth 100000 in
theorem lifted4 (os : Os) (started : os.Started) (H : Type) (enc : TypeId × Value → H) :
    ReturnsInHanded {} Try.checked os 4 .any (Rows.fnDecideFailureIsFinalAlongARunSpec.pre6 enc Try.prog Try.f4 Rows.fnDecideFailureIsFinalAlongARunRow.domain false) (Rows.fnDecideFailureIsFinalAlongARunSpec.post enc Try.prog Try.f4 false true false false) := by
  refine returnsInHanded_of_change (C := Try.checked) own started (by kernel_rfl) Try.func4
    (ChangeSpec.witness6 (enc := enc) (C := Try.checked) false ⟨#[], #[.int .i64 0, .slice none 0 0], []⟩ 8 (by kernel_rfl) (by kernel_rfl) (by kernel_rfl) (by kernel_rfl)) ?_
  intro W base args ds gs before hval0 hW hcnd _
  have hval : ∀ (j : Nat) t v, Try.f4.params[j]? = some t → args[j]? = some v → Value.okWide Try.prog W .any base t v := hval0
  have hW' := hW
  obtain ⟨p, q, hA0, hV, rfl, hfz, hnd⟩ := hW
  have hA : DataW.TrodAll enc Try.prog W 0 (fun _ => true) true Try.f4.params.toList args.toList ds p := hA0
  rw [Try.params4] at hA hval
  obtain ⟨v0, vs0, d0, ds0, p0, q0, hargs, rfl, rfl, h0, r0⟩ := trodAll_cons hA
  obtain ⟨v1, vs1, d1, ds1, p1, q1, rfl, rfl, rfl, h1, r1⟩ := trodAll_cons r0
  obtain ⟨rfl, rfl, rfl⟩ := trodAll_nil r1
  obtain rfl : args = #[v0, v1] := by cases args; simp_all
  obtain ⟨rfl, rfl⟩ := trodVars_none hV
  have k0 := h0
  have lt0 : ∀ x ∈ p0, x.block < W.heap.size := by obtain ⟨m, hm⟩ := k0; exact DataW.trod_lt m _ _ _ hm
  have k1 := h1
  have lt1 : ∀ x ∈ p1, x.block < W.heap.size := by obtain ⟨m, hm⟩ := k1; exact DataW.trod_lt m _ _ _ hm
  obtain ⟨tol, rfl, _, _, _⟩ := open_int Try.underlying2 (hval 0 2 v0 rfl rfl) h0
  obtain ⟨a, len, cap, bs, rfl, e1, m1, n1⟩ := open_bools (hval 1 24 v1 rfl rfl) h1
  clear hA0 hval0
  have hwalk : Calls Try.prog 4 #[.int .i64 tol, .slice a len cap] W fun e w' => e = .returned (.bool true) ∧ Below W.heap.size W w' := by
    cases a with
    | none =>
      obtain ⟨rfl, rfl⟩ := n1 rfl
      exact walk_nil tol W
    | some ad => exact walk_some tol ad len cap bs W e1 m1
  refine hwalk.mono fun e W' ⟨he, bel⟩ => ?_
  subst he
  exact ⟨_, rfl, _, _, _, [], _, [], hW', trodAll_mk1 (shut_bool Try.underlying4 _), (trodAll_cons_mk (Below.trod laidOut (by kernel_rfl) (of_decide_eq_true (by kernel_rfl)) k0 bel lt0) (trodAll_cons_mk (Below.trod laidOut (by kernel_rfl) (of_decide_eq_true (by kernel_rfl)) k1 bel lt1) trodAll_mk0)), rfl, bel.frame _, fun h => by cases h⟩

theorem over4 : Rows.fnDecideFailureIsFinalAlongARunRow.holds Try.pinned (OpenSpec.ofChange Rows.fnDecideFailureIsFinalAlongARunSpec) :=
  OpenClaim.holds_of_wide 4 Try.f4 rfl rfl rfl rfl rfl rfl rfl ⟨rfl, rfl, rfl, rfl, rfl⟩ rfl rfl rfl rfl rfl (by kernel_rfl) Try.func4 (by kernel_rfl)
    (of_decide_eq_true (by kernel_rfl)) (by unfold Func.isWrapper; first | (rw [if_pos (by decide +kernel)]; kernel_rfl) | (rw [if_neg (by decide +kernel)]; exact ⟨rfl, rfl⟩))
    (fun os started H enc _ => lifted4 os started H enc)

/-- THE STATEMENT -/
theorem decide_proved : Rows.FnDecideFailureIsFinalAlongARunSaid := over4
#print axioms decide_proved
end Go.Proofs.Qxb6600605a
