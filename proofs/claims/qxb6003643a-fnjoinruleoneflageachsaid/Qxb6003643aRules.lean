/-
  Seat b6003643a: ZZNewRoomVersion, knowsJoinRule, ZZKnowsJoinRule and the two bounds on lengths, WALKED.
-/
import Derived.Test.Qxb6003643aRows
import Derived.WalkKit
import Derived.WalkSpells
namespace Go.Proofs.Qxb6003643a
open Go.RowKit

/-- does a version with these flags know the rule? -/
def knows (r : ByteArray) (k1 k2 k3 : Bool) : Bool :=
  if r.toList == [112, 117, 98, 108, 105, 99] then true else if r.toList == [105, 110, 118, 105, 116, 101] then true
  else if r.toList == [107, 110, 111, 99, 107] then k1 else if r.toList == [114, 101, 115, 116, 114, 105, 99, 116, 101, 100] then k2
  else if r.toList == [107, 110, 111, 99, 107, 95, 114, 101, 115, 116, 114, 105, 99, 116, 101, 100] then k3 else false

/-- WHICH RULE IS IT? one of the five, or none -/
theorem which (r : ByteArray) :
    ((r.toList == [112, 117, 98, 108, 105, 99]) = true ∧ (r.toList == [105, 110, 118, 105, 116, 101]) = false ∧ (r.toList == [107, 110, 111, 99, 107]) = false ∧ (r.toList == [114, 101, 115, 116, 114, 105, 99, 116, 101, 100]) = false ∧ (r.toList == [107, 110, 111, 99, 107, 95, 114, 101, 115, 116, 114, 105, 99, 116, 101, 100]) = false) ∨
    ((r.toList == [112, 117, 98, 108, 105, 99]) = false ∧ (r.toList == [105, 110, 118, 105, 116, 101]) = true ∧ (r.toList == [107, 110, 111, 99, 107]) = false ∧ (r.toList == [114, 101, 115, 116, 114, 105, 99, 116, 101, 100]) = false ∧ (r.toList == [107, 110, 111, 99, 107, 95, 114, 101, 115, 116, 114, 105, 99, 116, 101, 100]) = false) ∨
    ((r.toList == [112, 117, 98, 108, 105, 99]) = false ∧ (r.toList == [105, 110, 118, 105, 116, 101]) = false ∧ (r.toList == [107, 110, 111, 99, 107]) = true ∧ (r.toList == [114, 101, 115, 116, 114, 105, 99, 116, 101, 100]) = false ∧ (r.toList == [107, 110, 111, 99, 107, 95, 114, 101, 115, 116, 114, 105, 99, 116, 101, 100]) = false) ∨
    ((r.toList == [112, 117, 98, 108, 105, 99]) = false ∧ (r.toList == [105, 110, 118, 105, 116, 101]) = false ∧ (r.toList == [107, 110, 111, 99, 107]) = false ∧ (r.toList == [114, 101, 115, 116, 114, 105, 99, 116, 101, 100]) = true ∧ (r.toList == [107, 110, 111, 99, 107, 95, 114, 101, 115, 116, 114, 105, 99, 116, 101, 100]) = false) ∨
    ((r.toList == [112, 117, 98, 108, 105, 99]) = false ∧ (r.toList == [105, 110, 118, 105, 116, 101]) = false ∧ (r.toList == [107, 110, 111, 99, 107]) = false ∧ (r.toList == [114, 101, 115, 116, 114, 105, 99, 116, 101, 100]) = false ∧ (r.toList == [107, 110, 111, 99, 107, 95, 114, 101, 115, 116, 114, 105, 99, 116, 101, 100]) = true) ∨
    ((r.toList == [112, 117, 98, 108, 105, 99]) = false ∧ (r.toList == [105, 110, 118, 105, 116, 101]) = false ∧ (r.toList == [107, 110, 111, 99, 107]) = false ∧ (r.toList == [114, 101, 115, 116, 114, 105, 99, 116, 101, 100]) = false ∧ (r.toList == [107, 110, 111, 99, 107, 95, 114, 101, 115, 116, 114, 105, 99, 116, 101, 100]) = false) := by
  generalize r.toList = l
  by_cases h1 : l = [112, 117, 98, 108, 105, 99]
  · subst h1; exact .inl (by decide)
  · by_cases h2 : l = [105, 110, 118, 105, 116, 101]
    · subst h2; exact .inr (.inl (by decide))
    · by_cases h3 : l = [107, 110, 111, 99, 107]
      · subst h3; exact .inr (.inr (.inl (by decide)))
      · by_cases h4 : l = [114, 101, 115, 116, 114, 105, 99, 116, 101, 100]
        · subst h4; exact .inr (.inr (.inr (.inl (by decide))))
        · by_cases h5 : l = [107, 110, 111, 99, 107, 95, 114, 101, 115, 116, 114, 105, 99, 116, 101, 100]
          · subst h5; exact .inr (.inr (.inr (.inr (.inl (by decide)))))
          · exact .inr (.inr (.inr (.inr (.inr ⟨by simpa using h1, by simpa using h2, by simpa using h3, by simpa using h4, by simpa using h5⟩))))

theorem ret_bool {a b : Bool} (h : a = b) : Ending.returned (.bool a) = .returned (.bool b) := by rw [h]

theorem knows_any (b : Nat) (r : ByteArray) (k1 k2 k3 : Bool) (w : World) (c1 : w.cell? ⟨b, 12, none⟩ = some (.bool k1)) (c2 : w.cell? ⟨b, 13, none⟩ = some (.bool k2)) (c3 : w.cell? ⟨b, 14, none⟩ = some (.bool k3)) :
    Calls Try.prog 23 #[.pointer (some ⟨b, 0, none⟩), .string r] w fun e w' => e = .returned (.bool (knows r k1 k2 k3)) ∧ w' = w := by
  rcases which r with ⟨h1, h2, h3, h4, h5⟩ | ⟨h1, h2, h3, h4, h5⟩ | ⟨h1, h2, h3, h4, h5⟩ | ⟨h1, h2, h3, h4, h5⟩ | ⟨h1, h2, h3, h4, h5⟩ | ⟨h1, h2, h3, h4, h5⟩
  all_goals
    go_enter Try.func23, Try.ntmps23
    go_wp2
    go_ret
    exact ⟨ret_bool (by simp [knows, h1, h2, h3, h4, h5]), rfl⟩

theorem zknows_any (b : Nat) (r : ByteArray) (k1 k2 k3 : Bool) (w : World) (c1 : w.cell? ⟨b, 12, none⟩ = some (.bool k1)) (c2 : w.cell? ⟨b, 13, none⟩ = some (.bool k2)) (c3 : w.cell? ⟨b, 14, none⟩ = some (.bool k3)) :
    Calls Try.prog 16 #[.pointer (some ⟨b, 0, none⟩), .string r] w fun e w' => e = .returned (.bool (knows r k1 k2 k3)) ∧ w' = w := by
  go_enter Try.func16, Try.ntmps16
  go_wp2_with fail
  refine (knows_any b r k1 k2 k3 w c1 c2 c3).mono ?_
  rintro e w' ⟨rfl, hw⟩
  obtain rfl := hw.symm
  go_wp2
  go_ret
  exact ⟨rfl, rfl⟩

theorem new_any (id : ByteArray) (k1 k2 k3 : Bool) (w : World) :
    Calls Try.prog 15 #[.string id, .bool k1, .bool k2, .bool k3] w fun e w' => e = .returned (.pointer (some ⟨w.heap.size, 0, none⟩)) ∧
      (w'.cell? ⟨w.heap.size, 12, none⟩ = some (.bool k1) ∧ w'.cell? ⟨w.heap.size, 13, none⟩ = some (.bool k2) ∧ w'.cell? ⟨w.heap.size, 14, none⟩ = some (.bool k3)) ∧ Grown w w' := by
  go_enter Try.func15, Try.ntmps15
  go_wp2
  go_ret
  exact ⟨rfl, ⟨by simp [go_sem], by simp [go_sem], by simp [go_sem]⟩, Grown.alloc (Grown.refl _) _ _⟩

/-- it answers a bool -/
def Answers (e : Ending) : Prop := ∃ r, e = .returned (.bool r)
theorem ans (r : Bool) : Answers (.returned (.bool r)) := ⟨r, rfl⟩

theorem bytes14 (id r : ByteArray) (w : World) (m0 : id.size ≤ maxLen) (m1 : r.size ≤ maxLen) : Calls Try.prog 14 #[.string id, .string r] w fun e w' => Answers e ∧ w' = w := by
  unfold maxLen at m0 m1
  go_enter Try.func14, Try.ntmps14
  go_wp2
  all_goals
    go_ret
    exact ⟨ans _, rfl⟩

theorem bytes17 (id r : ByteArray) (k1 k2 k3 : Bool) (w : World) (m0 : id.size ≤ maxLen) (m1 : r.size ≤ maxLen) : Calls Try.prog 17 #[.string id, .string r, .bool k1, .bool k2, .bool k3] w fun e w' => Answers e ∧ w' = w := by
  unfold maxLen at m0 m1
  go_enter Try.func17, Try.ntmps17
  go_wp2
  all_goals
    go_ret
    exact ⟨ans _, rfl⟩
end Go.Proofs.Qxb6003643a
