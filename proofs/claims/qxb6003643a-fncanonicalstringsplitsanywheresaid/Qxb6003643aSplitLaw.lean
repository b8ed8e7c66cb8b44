/-
  Seat b6003643a: FnCanonicalStringSplitsAnywhere: THE LEMMAS, AND THE PLAIN LAW.
-/
import Derived.Test.Qxb6003643aAppend
namespace Go.Proofs.Qxb6003643a
open Go.RowKit

/-- it answers a bool -/
def AnswersB (e : Ending) : Prop := ∃ r, e = .returned (.bool r)
theorem ansB (r : Bool) : AnswersB (.returned (.bool r)) := ⟨r, rfl⟩

theorem bytes12 (a0 a1 a2 : Option Addr) (len0 len1 len2 cap0 cap1 cap2 : Nat) (w : World) (m0 : len0 ≤ maxLen) (m1 : len1 ≤ maxLen) (m2 : len2 ≤ maxLen) :
    Calls Try.prog 12 #[.slice a0 len0 cap0, .slice a1 len1 cap1, .slice a2 len2 cap2] w fun e w' => AnswersB e ∧ w' = w := by
  unfold maxLen at m0 m1 m2
  go_enter Try.func12, Try.ntmps12
  go_wp2
  all_goals
    go_ret
    exact ⟨ansB _, rfl⟩

theorem zappend_any (ao : Option Addr) (n co base : Nat) (O : List Int) (a : Option Addr) (len cap : Nat) (zs : List Int) (w : World) (hown : w.ownsRow base 5 1 (.slice ao n co) n (O.map bv)) (hbase : base ≤ w.heap.size) (hs : Rd w base a len zs) (hn : n ≤ 16777216) (hlen : len ≤ 16777216) :
    Calls Try.prog 9 #[.slice ao n co, .slice a len cap] w fun e w' => ∃ g M cap', e = .returned (.slice (some ⟨g, 0, none⟩) M cap') ∧ w'.ownsRow base 5 1 (.slice (some ⟨g, 0, none⟩) M cap') M ((canon O zs).map bv) ∧ Below base w w' := by
  go_enter Try.func9, Try.ntmps9
  go_wp2_with fail
  refine (append_any ao n co base O a len cap zs w hown hbase hs hn hlen).mono ?_
  rintro e w' ⟨g, M, cap', rfl, ho, hb⟩
  go_wp2
  go_ret
  exact ⟨g, M, cap', rfl, ho, hb⟩

theorem own_rd {w : World} {base n cap : Nat} {a : Option Addr} {zs : List Int} (h : w.ownsRow base 5 1 (.slice a n cap) n (zs.map bv)) (hz : ∀ z ∈ zs, 0 ≤ z ∧ z ≤ 255) : Rd w w.heap.size a n zs ∧ (a = none → n = 0 ∧ cap = 0) := by
  cases a with
  | none =>
    have hl : zs.length = n := by have := h.1; simpa using this
    rcases h.2 with ⟨hv, h0⟩ | ⟨g, cp, cur, hv, _⟩
    · cases hv
      exact ⟨⟨hl, hz, .inl h0⟩, fun _ => ⟨rfl, rfl⟩⟩
    · cases hv
  | some ad =>
    rcases h.2 with ⟨hv, _⟩ | ⟨g, cp, cur, hv, _⟩
    · cases hv
    · cases hv
      exact ⟨rd_of_own h hz, fun h => by cases h⟩

theorem clone_any (a : Option Addr) (len cap : Nat) (zs : List Int) (w : World) (h : Rd w w.heap.size a len zs) (hn : a = none → len = 0 ∧ cap = 0) (hlen : len ≤ 16777216) :
    Calls Try.prog 8 #[.slice a len cap] w fun e w' => ∃ a', e = .returned (.slice a' len len) ∧ w'.ownsRow w.heap.size 5 1 (.slice a' len len) len (zs.map bv) ∧ Below w.heap.size w w' := by
  cases a with
  | none =>
    obtain ⟨rfl, rfl⟩ := hn rfl
    have hz : zs = [] := List.eq_nil_of_length_eq_zero h.1
    subst hz
    exact (clone_nil w).mono fun e w' ⟨he, hw⟩ => ⟨none, he, World.ownsRow_nil _ _ _ _, by rw [hw]; exact Below.refl _ _⟩
  | some ad => exact (clone_some ad len cap zs _ w h (Nat.le_refl _) hlen).mono fun e w' ⟨he, ho, hb⟩ => ⟨_, he, ho, hb⟩

theorem canon_length (O zs : List Int) : (canon O zs).length = O.length + 1 + (escL zs).length + 1 := by simp [canon]; omega
theorem canon_bd {O zs : List Int} (hO : ∀ z ∈ O, 0 ≤ z ∧ z ≤ 255) (hz : ∀ z ∈ zs, 0 ≤ z ∧ z ≤ 255) : ∀ z ∈ canon O zs, 0 ≤ z ∧ z ≤ 255 := by
  intro z hm
  have he := escL_bd hz z
  simp only [canon, List.mem_append, List.mem_cons, List.not_mem_nil, or_false] at hm
  rcases hm with h | h | h | h
  · exact hO z h
  · omega
  · exact he h
  · omega

theorem Rd.take {w : World} {B g m : Nat} {zs : List Int} (h : Rd w B (some ⟨g, 0, none⟩) (m + 1) zs) : Rd w B (some ⟨g, 0, none⟩) m (zs.take m) := by
  obtain ⟨h1, h2, h3⟩ := h
  refine ⟨by simp; omega, fun z hz => h2 z (List.mem_of_mem_take hz), ?_⟩
  rcases h3 with h | ⟨b, off, e, hlt, h⟩
  · omega
  · cases e
    refine .inr ⟨g, 0, rfl, hlt, fun i hi => ?_⟩
    rw [h i (by omega)]
    simp [List.getD, hi]
theorem Rd.drop {w : World} {B g m : Nat} {zs : List Int} (h : Rd w B (some ⟨g, 0, none⟩) (m + 1) zs) : Rd w B (some ⟨g, 1, none⟩) m (zs.drop 1) := by
  obtain ⟨h1, h2, h3⟩ := h
  refine ⟨by simp; omega, fun z hz => h2 z (List.mem_of_mem_drop hz), ?_⟩
  rcases h3 with h | ⟨b, off, e, hlt, h⟩
  · omega
  · cases e
    refine .inr ⟨g, 1, rfl, hlt, fun i hi => ?_⟩
    have := h (i + 1) (by omega)
    rw [show 1 + i = 0 + (i + 1) by omega, this]
    simp [List.getD]
theorem Rd.pre {w : World} {B g m n : Nat} {zs : List Int} (h : Rd w B (some ⟨g, 0, none⟩) m zs) (hn : n ≤ m) : Rd w B (some ⟨g, 0, none⟩) n (zs.take n) := by
  obtain ⟨h1, h2, h3⟩ := h
  refine ⟨by simp; omega, fun z hz => h2 z (List.mem_of_mem_take hz), ?_⟩
  rcases h3 with h | ⟨b, off, e, hlt, h⟩
  · exact .inl (by omega)
  · cases e
    refine .inr ⟨g, 0, rfl, hlt, fun i hi => ?_⟩
    rw [h i (by omega)]
    simp [List.getD, hi]

/-- THE PLAIN LAW. -/
theorem split_law (O A B : List Int) : (canon O A).take (O.length + 1 + (escL A).length) ++ (canon [] B).drop 1 = canon O (A ++ B) := by
  have e1 : (canon O A).take (O.length + 1 + (escL A).length) = O ++ 34 :: escL A := by
    have : canon O A = (O ++ 34 :: escL A) ++ [34] := by simp [canon]
    rw [this]
    exact List.take_left' (by simp; omega)
  rw [e1]
  simp [canon, escL_append]
theorem canon_pre (O A : List Int) : (canon O A).take O.length = O := by unfold canon; exact List.take_left' rfl
theorem canon_at (O A : List Int) : (canon O A).getD O.length 0 = 34 := by simp [canon, List.getD]
theorem canon_last (O A : List Int) : (canon O A).getD (O.length + 1 + (escL A).length) 0 = 34 := by
  have : canon O A = (O ++ 34 :: escL A) ++ [34] := by simp [canon]
  rw [this, List.getD, List.getElem?_append_right (by simp; omega)]
  have : O.length + 1 + (escL A).length - (O ++ 34 :: escL A).length = 0 := by simp; omega
  rw [this]
  rfl
end Go.Proofs.Qxb6003643a
