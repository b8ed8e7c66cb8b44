/-
  Seat b6003611a: THE PLAIN LAWS: what zzBuild builds, what a loop over the keys lays, and that these are Meet and Join. No Go in sight.
-/
import Derived.Test.Qxb6003611aPlain
namespace Go.Proofs.Qxb6003611a
open Go.RowKit Go.Maps

/-- what 'zzBuild' has laid after k entries -/
def bld (N : Nat → ByteArray) (S : Nat → Int) : Nat → (Lit → Option Int)
  | 0 => noneF
  | k + 1 => upd (bld N S k) (kS (N k)) (S k)

/-- a store where there is a number to store -/
def putO (f : Lit → Option Int) (k : Lit) (o : Option Int) : Lit → Option Int := fun x => match o with | some c => upd f k c x | none => f x
theorem putO_some (f : Lit → Option Int) (k : Lit) (c : Int) : putO f k (some c) = upd f k c := rfl
theorem putO_none (f : Lit → Option Int) (k : Lit) : putO f k none = f := rfl
theorem putO_same {f : Lit → Option Int} {k : Lit} (hk : WideAt.IsKeyLit k) (o : Option Int) : putO f k o k = o.or (f k) := by
  cases o with
  | none => rfl
  | some c => exact upd_same hk
theorem putO_other {f : Lit → Option Int} {k x : Lit} (hx : x ≠ k) (o : Option Int) : putO f k o x = f x := by
  cases o with
  | none => rfl
  | some c => exact upd_other hx

/-- a loop over the first k keys that lays F's number at each key where F has one -/
def lay (h F : Lit → Option Int) (N : Nat → ByteArray) : Nat → (Lit → Option Int)
  | 0 => h
  | k + 1 => putO (lay h F N k) (kS (N k)) (F (kS (N k)))

theorem bld_mem (N : Nat → ByteArray) (S : Nat → Int) (x : Lit) : ∀ k, (∃ i, i < k ∧ x = kS (N i)) ∨ bld N S k x = none
  | 0 => .inr rfl
  | k + 1 => by
    rcases bld_mem N S x k with ⟨i, hi, rfl⟩ | h
    · exact .inl ⟨i, by omega, rfl⟩
    · by_cases e : x = kS (N k)
      · exact .inl ⟨k, by omega, e⟩
      · exact .inr (by rw [bld, upd_other e, h])
theorem bld_some (N : Nat → ByteArray) (S : Nat → Int) : ∀ k i, i < k → (bld N S k (kS (N i))).isSome
  | k + 1, i, hi => by
    by_cases e : kS (N i) = kS (N k)
    · rw [e, bld, upd_same (key_kS _)]; rfl
    · have : i ≠ k := fun h => e (by rw [h])
      rw [bld, upd_other e]
      exact bld_some N S k i (by omega)


theorem lay_out (h F : Lit → Option Int) (N : Nat → ByteArray) (x : Lit) : ∀ k, (∀ i, i < k → x ≠ kS (N i)) → lay h F N k x = h x
  | 0, _ => rfl
  | k + 1, hx => by rw [lay, putO_other (hx k (by omega)), lay_out h F N x k (fun i hi => hx i (by omega))]
theorem lay_in (h F : Lit → Option Int) (N : Nat → ByteArray) (x : Lit) : ∀ k, (∃ i, i < k ∧ x = kS (N i)) → lay h F N k x = (F x).or (h x)
  | 0, ⟨i, hi, _⟩ => by omega
  | k + 1, ⟨i, hi, e⟩ => by
    by_cases ek : x = kS (N k)
    · have hkey : WideAt.IsKeyLit x := by rw [ek]; exact key_kS _
      rw [lay, ← ek, putO_same hkey]
      cases hF : F x with
      | some c => rfl
      | none =>
        by_cases hin : ∃ j, j < k ∧ x = kS (N j)
        · rw [lay_in h F N x k hin, hF]; rfl
        · rw [lay_out h F N x k (fun j hj hx => hin ⟨j, hj, hx⟩)]
    · have : i ≠ k := fun h' => ek (by rw [e, h'])
      rw [lay, putO_other ek, lay_in h F N x k ⟨i, by omega, e⟩]

theorem bld_out (N : Nat → ByteArray) (S : Nat → Int) (x : Lit) (k : Nat) (h : ¬ ∃ i, i < k ∧ x = kS (N i)) : bld N S k x = none := (bld_mem N S x k).resolve_left h
theorem bld_in (N : Nat → ByteArray) (S : Nat → Int) (x : Lit) (k : Nat) (h : ∃ i, i < k ∧ x = kS (N i)) : ∃ c, bld N S k x = some c := by
  obtain ⟨i, hi, rfl⟩ := h
  exact Option.isSome_iff_exists.1 (bld_some N S k i hi)

/-- the number that the Meet law's loop lays -/
def minF (f g : Lit → Option Int) : Lit → Option Int := fun x => if 0 < min (at0 f x) (at0 g x) then some (min (at0 f x) (at0 g x)) else none

theorem lay_meet (N : Nat → ByteArray) (S : Nat → Int) (len : Nat) (g : Lit → Option Int) : lay noneF (minF (bld N S len) g) N len = meetF (bld N S len) g := by
  funext x
  by_cases hx : ∃ i, i < len ∧ x = kS (N i)
  · obtain ⟨c, hc⟩ := bld_in N S x len hx
    rw [lay_in _ _ _ _ _ hx]
    by_cases hp : 0 < min c ((g x).getD 0) <;> simp [minF, meetF, hc, at0, noneF, hp]
  · rw [lay_out _ _ _ _ _ (fun i hi e => hx ⟨i, hi, e⟩)]
    simp only [meetF, bld_out N S x len hx, noneF]
theorem meet_comm {f g : Lit → Option Int} : meetF f g = meetF g f := by
  funext x
  unfold meetF at0
  cases hf : f x <;> cases hg : g x
  · rfl
  · simp; omega
  · simp; omega
  · rename_i a b
    simp only [Option.getD_some]
    rw [show min a b = min b a by omega]
end Go.Proofs.Qxb6003611a
