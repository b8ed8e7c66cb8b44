/-
  Seat b6003611a: THE PLAIN LAWS of the statements on Join and on absorption. No Go in sight.
-/
import Derived.Test.Qxb6003611aPut
namespace Go.Proofs.Qxb6003611a
open Go.RowKit Go.Maps

/-- what Join computes -/
def J (f g : Lit → Option Int) : Lit → Option Int := joinF (joinF noneF f) g
/-- the number that the absorption law's loop lays -/
def posF (f : Lit → Option Int) : Lit → Option Int := fun x => if 0 < at0 f x then some (at0 f x) else none

theorem J_nn {f g : Lit → Option Int} {x : Lit} (hf : f x = none) (hg : g x = none) : J f g x = none := by simp [J, joinF, hf, hg, noneF]
theorem J_sn {f g : Lit → Option Int} {x : Lit} {c : Int} (hf : f x = some c) (hg : g x = none) (hc : 0 ≤ c) : J f g x = some c := by
  simp only [J, joinF, hf, hg, noneF, at0, Option.getD_none]
  rw [show max 0 c = c by omega]
theorem J_ns {f g : Lit → Option Int} {x : Lit} {d : Int} (hf : f x = none) (hg : g x = some d) (hd : 0 ≤ d) : J f g x = some d := by
  simp only [J, joinF, hf, hg, noneF, at0, Option.getD_none]
  rw [show max 0 d = d by omega]
theorem J_ss {f g : Lit → Option Int} {x : Lit} {c d : Int} (hf : f x = some c) (hg : g x = some d) (hc : 0 ≤ c) : J f g x = some (max c d) := by
  simp only [J, joinF, hf, hg, noneF, at0, Option.getD_none, Option.getD_some]
  rw [show max 0 c = c by omega]

theorem wf_J {f g : Lit → Option Int} (hf : WfF f) (hg : WfF g) : WfF (J f g) := by
  intro x c hx
  cases h1 : f x with
  | none =>
    cases h2 : g x with
    | none => rw [J_nn h1 h2] at hx; cases hx
    | some d => have := hg x d h2; rw [J_ns h1 h2 this.1] at hx; cases hx; exact this
  | some c0 =>
    have h3 := hf x c0 h1
    cases h2 : g x with
    | none => rw [J_sn h1 h2 h3.1] at hx; cases hx; exact h3
    | some d =>
      have := hg x d h2
      rw [J_ss h1 h2 h3.1] at hx
      cases hx
      omega

theorem J_comm {f g : Lit → Option Int} (hf : WfF f) (hg : WfF g) : J f g = J g f := by
  funext x
  cases h1 : f x with
  | none =>
    cases h2 : g x with
    | none => rw [J_nn h1 h2, J_nn h2 h1]
    | some d => have := hg x d h2; rw [J_ns h1 h2 this.1, J_sn h2 h1 this.1]
  | some c =>
    have h3 := hf x c h1
    cases h2 : g x with
    | none => rw [J_sn h1 h2 h3.1, J_ns h2 h1 h3.1]
    | some d =>
      have := hg x d h2
      rw [J_ss h1 h2 h3.1, J_ss h2 h1 this.1, show max c d = max d c by omega]

theorem J_assoc {f g h : Lit → Option Int} (hf : WfF f) (hg : WfF g) (hh : WfF h) : J (J f g) h = J f (J g h) := by
  funext x
  cases h1 : f x with
  | none =>
    cases h2 : g x with
    | none =>
      cases h3 : h x with
      | none => rw [J_nn (J_nn h1 h2) h3, J_nn h1 (J_nn h2 h3)]
      | some e => have w3 := hh x e h3; rw [J_ns (J_nn h1 h2) h3 w3.1, J_ns h1 (J_ns h2 h3 w3.1) w3.1]
    | some d =>
      have w2 := hg x d h2
      cases h3 : h x with
      | none => rw [J_sn (J_ns h1 h2 w2.1) h3 w2.1, J_ns h1 (J_sn h2 h3 w2.1) w2.1]
      | some e => have w3 := hh x e h3; rw [J_ss (J_ns h1 h2 w2.1) h3 w2.1, J_ns h1 (J_ss h2 h3 w2.1) (by omega)]
  | some c =>
    have w1 := hf x c h1
    cases h2 : g x with
    | none =>
      cases h3 : h x with
      | none => rw [J_sn (J_sn h1 h2 w1.1) h3 w1.1, J_sn h1 (J_nn h2 h3) w1.1]
      | some e => have w3 := hh x e h3; rw [J_ss (J_sn h1 h2 w1.1) h3 w1.1, J_ss h1 (J_ns h2 h3 w3.1) w1.1]
    | some d =>
      have w2 := hg x d h2
      cases h3 : h x with
      | none => rw [J_sn (J_ss h1 h2 w1.1) h3 (by omega), J_ss h1 (J_sn h2 h3 w2.1) w1.1]
      | some e => have w3 := hh x e h3; rw [J_ss (J_ss h1 h2 w1.1) h3 (by omega), J_ss h1 (J_ss h2 h3 w2.1) w1.1, show max (max c d) e = max c (max d e) by omega]

/-- THE LAW OF TWO: what the two loops lay is Join. -/
theorem lay_join2 (N0 N1 : Nat → ByteArray) (S0 S1 : Nat → Int) (l0 l1 : Nat) (hf : WfF (bld N0 S0 l0)) (hg : WfF (bld N1 S1 l1)) :
    lay (lay noneF (maxF (bld N0 S0 l0) (bld N1 S1 l1) noneF) N0 l0) (maxF (bld N0 S0 l0) (bld N1 S1 l1) noneF) N1 l1 = J (bld N0 S0 l0) (bld N1 S1 l1) := by
  funext x
  by_cases h0 : ∃ i, i < l0 ∧ x = kS (N0 i)
  · obtain ⟨c, hc⟩ := bld_in N0 S0 x l0 h0
    have w0 := hf x c hc
    by_cases h1 : ∃ i, i < l1 ∧ x = kS (N1 i)
    · obtain ⟨d, hd⟩ := bld_in N1 S1 x l1 h1
      have w1 := hg x d hd
      rw [lay_in _ _ _ _ _ h1, J_ss hc hd w0.1]
      simp only [maxF, at0, hc, hd, noneF, Option.getD_some, Option.getD_none, Option.some_or]
      rw [show max (max c d) 0 = max c d by omega]
    · have hd := bld_out N1 S1 x l1 h1
      rw [lay_out _ _ _ _ _ (fun i hi e => h1 ⟨i, hi, e⟩), lay_in _ _ _ _ _ h0, J_sn hc hd w0.1]
      simp only [maxF, at0, hc, hd, noneF, Option.getD_some, Option.getD_none, Option.some_or]
      rw [show max (max c 0) 0 = c by omega]
  · have hc := bld_out N0 S0 x l0 h0
    by_cases h1 : ∃ i, i < l1 ∧ x = kS (N1 i)
    · obtain ⟨d, hd⟩ := bld_in N1 S1 x l1 h1
      have w1 := hg x d hd
      rw [lay_in _ _ _ _ _ h1, J_ns hc hd w1.1]
      simp only [maxF, at0, hc, hd, noneF, Option.getD_some, Option.getD_none, Option.some_or]
      rw [show max (max 0 d) 0 = d by omega]
    · have hd := bld_out N1 S1 x l1 h1
      rw [lay_out _ _ _ _ _ (fun i hi e => h1 ⟨i, hi, e⟩), lay_out _ _ _ _ _ (fun i hi e => h0 ⟨i, hi, e⟩), J_nn hc hd]
      rfl

/-- the greatest of three, where one of them at least is there -/
theorem J3_val {f g h : Lit → Option Int} (hf : WfF f) (hg : WfF g) (hh : WfF h) (x : Lit) (he : (f x).isSome ∨ (g x).isSome ∨ (h x).isSome) : J (J f g) h x = maxF f g h x := by
  unfold maxF at0
  cases h1 : f x with
  | none =>
    cases h2 : g x with
    | none =>
      cases h3 : h x with
      | none => simp [h1, h2, h3] at he
      | some e => have w3 := hh x e h3; rw [J_ns (J_nn h1 h2) h3 w3.1]; simp only [Option.getD_none, Option.getD_some]; rw [show max (max 0 0) e = e by omega]
    | some d =>
      have w2 := hg x d h2
      cases h3 : h x with
      | none => rw [J_sn (J_ns h1 h2 w2.1) h3 w2.1]; simp only [Option.getD_none, Option.getD_some]; rw [show max (max 0 d) 0 = d by omega]
      | some e => have w3 := hh x e h3; rw [J_ss (J_ns h1 h2 w2.1) h3 w2.1]; simp only [Option.getD_none, Option.getD_some]; rw [show max (max 0 d) e = max d e by omega]
  | some c =>
    have w1 := hf x c h1
    cases h2 : g x with
    | none =>
      cases h3 : h x with
      | none => rw [J_sn (J_sn h1 h2 w1.1) h3 w1.1]; simp only [Option.getD_none, Option.getD_some]; rw [show max (max c 0) 0 = c by omega]
      | some e => have w3 := hh x e h3; rw [J_ss (J_sn h1 h2 w1.1) h3 w1.1]; simp only [Option.getD_none, Option.getD_some]; rw [show max (max c 0) e = max c e by omega]
    | some d =>
      have w2 := hg x d h2
      cases h3 : h x with
      | none => rw [J_sn (J_ss h1 h2 w1.1) h3 (by omega)]; simp only [Option.getD_none, Option.getD_some]; rw [show max (max c d) 0 = max c d by omega]
      | some e => have w3 := hh x e h3; rw [J_ss (J_ss h1 h2 w1.1) h3 (by omega)]; simp only [Option.getD_some]

/-- THE LAW OF THREE. -/
theorem lay_join3 (N0 N1 N2 : Nat → ByteArray) (S0 S1 S2 : Nat → Int) (l0 l1 l2 : Nat) (hf : WfF (bld N0 S0 l0)) (hg : WfF (bld N1 S1 l1)) (hh : WfF (bld N2 S2 l2)) :
    lay (lay (lay noneF (maxF (bld N0 S0 l0) (bld N1 S1 l1) (bld N2 S2 l2)) N0 l0) (maxF (bld N0 S0 l0) (bld N1 S1 l1) (bld N2 S2 l2)) N1 l1) (maxF (bld N0 S0 l0) (bld N1 S1 l1) (bld N2 S2 l2)) N2 l2 =
      J (J (bld N0 S0 l0) (bld N1 S1 l1)) (bld N2 S2 l2) := by
  funext x
  by_cases h2 : ∃ i, i < l2 ∧ x = kS (N2 i)
  · obtain ⟨e, he⟩ := bld_in N2 S2 x l2 h2
    rw [lay_in _ _ _ _ _ h2, J3_val hf hg hh x (.inr (.inr (by rw [he]; rfl)))]
    rfl
  · rw [lay_out _ _ _ _ _ (fun i hi e => h2 ⟨i, hi, e⟩)]
    by_cases h1 : ∃ i, i < l1 ∧ x = kS (N1 i)
    · obtain ⟨d, hd⟩ := bld_in N1 S1 x l1 h1
      rw [lay_in _ _ _ _ _ h1, J3_val hf hg hh x (.inr (.inl (by rw [hd]; rfl)))]
      rfl
    · rw [lay_out _ _ _ _ _ (fun i hi e => h1 ⟨i, hi, e⟩)]
      by_cases h0 : ∃ i, i < l0 ∧ x = kS (N0 i)
      · obtain ⟨c, hc⟩ := bld_in N0 S0 x l0 h0
        rw [lay_in _ _ _ _ _ h0, J3_val hf hg hh x (.inl (by rw [hc]; rfl))]
        rfl
      · rw [lay_out _ _ _ _ _ (fun i hi e => h0 ⟨i, hi, e⟩), J_nn (J_nn (bld_out N0 S0 x l0 h0) (bld_out N1 S1 x l1 h1)) (bld_out N2 S2 x l2 h2)]
        rfl

theorem lay_same (N : Nat → ByteArray) (S : Nat → Int) (l : Nat) : lay noneF (sameF (bld N S l)) N l = bld N S l := by
  funext x
  by_cases h : ∃ i, i < l ∧ x = kS (N i)
  · obtain ⟨c, hc⟩ := bld_in N S x l h
    rw [lay_in _ _ _ _ _ h, hc]
    simp [sameF, at0, hc]
  · rw [lay_out _ _ _ _ _ (fun i hi e => h ⟨i, hi, e⟩), bld_out N S x l h]
    rfl

theorem J_self {f : Lit → Option Int} (hf : WfF f) : J f f = f := by
  funext x
  cases h1 : f x with
  | none => exact J_nn h1 h1
  | some c => have := hf x c h1; rw [J_ss h1 h1 this.1, show max c c = c by omega]

/-- absorption, the first half: a with a.Meet(b) joined is a -/
theorem J_meet {f g : Lit → Option Int} (hf : WfF f) : J f (meetF f g) = f := by
  funext x
  cases h1 : f x with
  | none => exact J_nn h1 (by simp [meetF, h1])
  | some c =>
    have w1 := hf x c h1
    by_cases hp : 0 < min c (at0 g x)
    · have hm : meetF f g x = some (min c (at0 g x)) := by simp only [meetF, h1, if_pos hp]
      rw [J_ss h1 hm w1.1, show max c (min c (at0 g x)) = c by omega]
    · have hm : meetF f g x = none := by simp only [meetF, h1, if_neg hp]
      exact J_sn h1 hm w1.1

/-- absorption, the second half: a.Meet(a.Join(b)) is a without its noughts -/
theorem lay_pos (N : Nat → ByteArray) (S : Nat → Int) (l : Nat) {g : Lit → Option Int} (hf : WfF (bld N S l)) : lay noneF (posF (bld N S l)) N l = meetF (bld N S l) (J (bld N S l) g) := by
  funext x
  by_cases h : ∃ i, i < l ∧ x = kS (N i)
  · obtain ⟨c, hc⟩ := bld_in N S x l h
    have w1 := hf x c hc
    have hj : min c (at0 (J (bld N S l) g) x) = c := by
      cases h2 : g x with
      | none => simp only [at0, J_sn hc h2 w1.1, Option.getD_some]; omega
      | some d => simp only [at0, J_ss hc h2 w1.1, Option.getD_some]; omega
    rw [lay_in _ _ _ _ _ h]
    unfold meetF posF
    simp only [hc, hj]
    by_cases hp : 0 < c <;> simp [at0, hc, hp, noneF]
  · rw [lay_out _ _ _ _ _ (fun i hi e => h ⟨i, hi, e⟩)]
    simp [meetF, bld_out N S x l h, noneF]
end Go.Proofs.Qxb6003611a
