/-
  Seat b6003643a: WHAT appendCanonicalString APPENDS FOR ONE BYTE, AND FOR A LIST OF THEM. No Go in sight.
-/
import Derived.Test.Qxb6003643aBytesW
namespace Go.Proofs.Qxb6003643a

/-- a hex digit's byte -/
def hexd (i : Int) : Int := ([48, 49, 50, 51, 52, 53, 54, 55, 56, 57, 97, 98, 99, 100, 101, 102] : List Int).getD i.toNat 0

/-- what is appended for the byte c -/
def esc (c : Int) : List Int :=
  if c = 34 then [92, 34] else if c = 92 then [92, 92] else if c = 8 then [92, 98] else if c = 12 then [92, 102] else if c = 10 then [92, 110] else if c = 13 then [92, 114] else if c = 9 then [92, 116]
  else if c < 32 then [92, 117, 48, 48, hexd (c / 16), hexd (c % 16)] else [c]

def escL (zs : List Int) : List Int := zs.flatMap esc
theorem escL_append (a b : List Int) : escL (a ++ b) = escL a ++ escL b := by simp [escL]

theorem hexd_bd (i : Int) : 0 ≤ hexd i ∧ hexd i ≤ 255 := by
  unfold hexd
  generalize i.toNat = n
  match n with
  | 0 | 1 | 2 | 3 | 4 | 5 | 6 | 7 | 8 | 9 | 10 | 11 | 12 | 13 | 14 | 15 => decide
  | n + 16 => simp

theorem esc_bd {c : Int} (h : 0 ≤ c ∧ c ≤ 255) : ∀ z ∈ esc c, 0 ≤ z ∧ z ≤ 255 := by
  have h1 := hexd_bd (c / 16)
  have h2 := hexd_bd (c % 16)
  intro z hz
  unfold esc at hz
  repeat' split at hz
  all_goals
    simp at hz
    omega
theorem escL_bd {zs : List Int} (h : ∀ z ∈ zs, 0 ≤ z ∧ z ≤ 255) : ∀ z ∈ escL zs, 0 ≤ z ∧ z ≤ 255 := by
  intro z hz
  obtain ⟨c, hc, hz⟩ := List.mem_flatMap.1 hz
  exact esc_bd (h c hc) z hz
theorem esc_len (c : Int) : (esc c).length ≤ 6 := by
  unfold esc
  repeat' split
  all_goals simp
theorem escL_len (zs : List Int) : (escL zs).length ≤ 6 * zs.length := by
  induction zs with
  | nil => simp [escL]
  | cons a r ih =>
    have := esc_len a
    simp only [escL, List.flatMap_cons, List.length_append, List.length_cons] at ih ⊢
    omega

/-- what lies in 'out' before round k -/
def upto (O zs : List Int) (k : Nat) : List Int := O ++ 34 :: escL (zs.take k)
theorem upto_zero (O zs : List Int) : upto O zs 0 = O ++ [34] := by simp [upto, escL]
theorem upto_step (O zs : List Int) (k : Nat) (hk : k < zs.length) : upto O zs (k + 1) = upto O zs k ++ esc (zs.getD k 0) := by
  unfold upto
  rw [List.take_succ_eq_append_getElem hk, escL_append]
  simp [escL, List.getD, hk]
theorem upto_end (O zs : List Int) : upto O zs zs.length = O ++ 34 :: escL zs := by simp [upto]
theorem upto_len (O zs : List Int) (k : Nat) : (upto O zs k).length ≤ O.length + 1 + 6 * k := by
  have := escL_len (zs.take k)
  have h2 : (zs.take k).length ≤ k := List.length_take_le _ _
  simp only [upto, List.length_append, List.length_cons]
  omega
/-- the whole answer -/
def canon (O zs : List Int) : List Int := O ++ 34 :: (escL zs ++ [34])
end Go.Proofs.Qxb6003643a
