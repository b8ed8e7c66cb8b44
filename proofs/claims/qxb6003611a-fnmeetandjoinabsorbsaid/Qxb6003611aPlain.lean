/-
  Seat b6003611a: THE PLAIN FUNCTIONS of Meet and Join, and what a round does to them.
-/
import Derived.Test.Qxb6003611aViews
namespace Go.Proofs.Qxb6003611a
open Go.RowKit Go.Maps

def meetF (f g : Lit → Option Int) : Lit → Option Int := fun x => match f x with | none => none | some c => if 0 < min c (at0 g x) then some (min c (at0 g x)) else none
def partM (f g : Lit → Option Int) (left : Lit → Bool) : Lit → Option Int := fun x => if left x then none else meetF f g x
def joinF (h f : Lit → Option Int) : Lit → Option Int := fun x => match f x with | none => h x | some c => some (max (at0 h x) c)
def partJ (h f : Lit → Option Int) (left : Lit → Bool) : Lit → Option Int := fun x => if left x then h x else joinF h f x

theorem partM_start (f g : Lit → Option Int) : partM f g (fun x => (f x).isSome) = noneF := by
  funext x
  unfold partM meetF noneF
  cases hx : f x <;> simp [hx]
theorem partM_put {f g : Lit → Option Int} {left : Lit → Bool} {k : Lit} {c : Int} (hk : WideAt.IsKeyLit k) (hf : f k = some c) (hm : 0 < min c (at0 g k)) :
    upd (partM f g left) k (min c (at0 g k)) = partM f g (fun z => left z && !z.sameKey k) := by
  funext x
  by_cases e : x = k
  · subst e
    rw [upd_same hk]
    unfold partM meetF
    simp [WideAt.sameKey_self hk, hf, hm]
  · rw [upd_other e]
    unfold partM
    simp [sameKey_ne e]
theorem partM_skip {f g : Lit → Option Int} {left : Lit → Bool} {k : Lit} {c : Int} (hk : WideAt.IsKeyLit k) (hl : left k = true) (hf : f k = some c) (hm : ¬ 0 < min c (at0 g k)) :
    partM f g left = partM f g (fun z => left z && !z.sameKey k) := by
  funext x
  by_cases e : x = k
  · subst e
    unfold partM meetF
    simp [WideAt.sameKey_self hk, hf, hm, hl]
  · unfold partM
    simp [sameKey_ne e]
theorem partM_end {f g : Lit → Option Int} {left : Lit → Bool} (hl : ∀ x, left x = false) : partM f g left = meetF f g := by
  funext x
  simp [partM, hl]

theorem partJ_start (h f : Lit → Option Int) : partJ h f (fun x => (f x).isSome) = h := by
  funext x
  unfold partJ joinF
  cases hx : f x <;> simp [hx]
theorem partJ_at {h f : Lit → Option Int} {left : Lit → Bool} {k : Lit} (hl : left k = true) : at0 (partJ h f left) k = at0 h k := by
  simp [at0, partJ, hl]
theorem partJ_put {h f : Lit → Option Int} {left : Lit → Bool} {k : Lit} {c : Int} (hk : WideAt.IsKeyLit k) (hl : left k = true) (hf : f k = some c) :
    upd (partJ h f left) k (max (at0 (partJ h f left) k) c) = partJ h f (fun z => left z && !z.sameKey k) := by
  rw [partJ_at hl]
  funext x
  by_cases e : x = k
  · subst e
    rw [upd_same hk]
    unfold partJ joinF
    simp [WideAt.sameKey_self hk, hf]
  · rw [upd_other e]
    unfold partJ
    simp [sameKey_ne e]
theorem partJ_end {h f : Lit → Option Int} {left : Lit → Bool} (hl : ∀ x, left x = false) : partJ h f left = joinF h f := by
  funext x
  simp [partJ, hl]
end Go.Proofs.Qxb6003611a
