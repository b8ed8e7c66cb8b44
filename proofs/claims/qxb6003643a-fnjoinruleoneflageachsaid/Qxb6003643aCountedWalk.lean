/-
  Seat b6003643a: FnJoinRuleCountedOverVersions, WALKED.
-/
import Derived.Test.Qxb6003643aRules
namespace Go.Proofs.Qxb6003643a
open Go.RowKit

/-- how many of the first k versions know the rule -/
def cnt (r : ByteArray) : Nat → Nat
  | 0 => 0
  | k + 1 => cnt r k + (if knows r (bits BinOp.and IntKind.i64 (k : Int) 1 != 0) (bits BinOp.and IntKind.i64 (k : Int) 2 != 0) (bits BinOp.and IntKind.i64 (k : Int) 4 != 0) then 1 else 0)

theorem cnt_le (r : ByteArray) : ∀ k, cnt r k ≤ k
  | 0 => Nat.le_refl _
  | k + 1 => by
    have := cnt_le r k
    unfold cnt
    split <;> omega

theorem cnt_fin (r : ByteArray) : cnt r 8 = (if r.toList == [112, 117, 98, 108, 105, 99] then 8 else if r.toList == [105, 110, 118, 105, 116, 101] then 8 else if r.toList == [107, 110, 111, 99, 107] then 4 else if r.toList == [114, 101, 115, 116, 114, 105, 99, 116, 101, 100] then 4
    else if r.toList == [107, 110, 111, 99, 107, 95, 114, 101, 115, 116, 114, 105, 99, 116, 101, 100] then 4 else 0) := by
  have b : ∀ k : Nat, k < 8 → (bits BinOp.and IntKind.i64 (k : Int) 1 != 0) = (k % 2 == 1) ∧ (bits BinOp.and IntKind.i64 (k : Int) 2 != 0) = (k / 2 % 2 == 1) ∧ (bits BinOp.and IntKind.i64 (k : Int) 4 != 0) = (k / 4 % 2 == 1) := by decide
  have e : ∀ k : Nat, k < 8 → cnt r (k + 1) = cnt r k + (if knows r (k % 2 == 1) (k / 2 % 2 == 1) (k / 4 % 2 == 1) then 1 else 0) := fun k hk => by
    obtain ⟨b1, b2, b3⟩ := b k hk
    rw [cnt, b1, b2, b3]
  rw [e 7 (by omega), e 6 (by omega), e 5 (by omega), e 4 (by omega), e 3 (by omega), e 2 (by omega), e 1 (by omega), e 0 (by omega)]
  rcases which r with ⟨h1, h2, h3, h4, h5⟩ | ⟨h1, h2, h3, h4, h5⟩ | ⟨h1, h2, h3, h4, h5⟩ | ⟨h1, h2, h3, h4, h5⟩ | ⟨h1, h2, h3, h4, h5⟩ | ⟨h1, h2, h3, h4, h5⟩ <;>
    simp [cnt, knows, h1, h2, h3, h4, h5]

theorem grown_trans {a b c : World} (h : Grown a b) (k : Grown b c) : Grown a c :=
  ⟨World.keptBut_trans h.1 k.1, fun x => (k.2.1 x).trans (h.2.1 x), Nat.le_trans h.2.2 k.2.2⟩

set_option maxHeartbeats 1000000 in
theorem walk5 (a0 : ByteArray) (a1 : ByteArray) (w0 : a0.size ≤ maxLen) (w1 : a1.size ≤ maxLen) (w : World) :
    Calls Try.prog 5 #[.string a0, .string a1] w fun e w' => e = .returned (.bool true) ∧ Grown w w' := by
  go_enter Try.func5, Try.ntmps5
  go_wp2_with fail
  refine (bytes14 a0 a1 w w0 w1).mono ?_
  rintro e w' ⟨⟨r, rfl⟩, hw⟩
  obtain rfl := hw.symm
  unfold maxLen at w0 w1
  cases r with
  | false =>
    go_wp2
    go_ret
    exact ⟨rfl, Grown.refl _⟩
  | true =>
    by_cases l0 : 65536 < a0.size
    · go_wp2
      go_ret
      exact ⟨rfl, Grown.refl _⟩
    · by_cases l1 : 65536 < a1.size
      · go_wp2
        go_ret
        exact ⟨rfl, Grown.refl _⟩
      · have d0 : decide (65536 < (a0.size : Int)) = false := by simp; omega
        have d1 : decide (65536 < (a1.size : Int)) = false := by simp; omega
        clear l0 l1
        go_wp2
        go_loopw [5, 6] (fun n m wr => ∃ k : Nat, k ≤ 8 ∧ m = .int .i64 k ∧ n = .int .i64 (cnt a1 k) ∧ Grown w wr) (fun _ m _ => 8 - (intOf m).toNat)
        case atStart => exact ⟨0, by omega, rfl, rfl, Grown.refl _⟩
        case round =>
          obtain ⟨k, hk, rfl, rfl, hgr⟩ := hrel
          have hcl := cnt_le a1 k
          by_cases hlk : k < 8
          · go_wp2_with fail
            refine (new_any a0 _ _ _ wr).mono ?_
            rintro e w2 ⟨rfl, ⟨c1, c2, c3⟩, hg2⟩
            go_wp2_with fail
            refine (zknows_any wr.heap.size a1 _ _ _ w2 c1 c2 c3).mono ?_
            rintro e w' ⟨rfl, hw⟩
            obtain rfl := hw.symm
            clear c1 c2 c3
            cases hkn : knows a1 (bits BinOp.and IntKind.i64 (k : Int) 1 != 0) (bits BinOp.and IntKind.i64 (k : Int) 2 != 0) (bits BinOp.and IntKind.i64 (k : Int) 4 != 0) with
            | true =>
              have HK : Hid (cnt a1 (k + 1) = cnt a1 k + 1) := by unfold Hid; rw [cnt, hkn]; rfl
              go_wp2
              go_roundw
              case rel => exact ⟨k + 1, by omega, by go_num, by rw [HK.out]; go_num, grown_trans hgr hg2⟩
              case measure => simp [intOf]; omega
            | false =>
              have HK : Hid (cnt a1 (k + 1) = cnt a1 k) := by unfold Hid; rw [cnt, hkn]; rfl
              go_wp2
              go_roundw
              case rel => exact ⟨k + 1, by omega, by go_num, by rw [HK.out], grown_trans hgr hg2⟩
              case measure => simp [intOf]; omega
          · have : k = 8 := by omega
            subst this
            have hfin : cnt a1 8 = (if a1.toList == [112, 117, 98, 108, 105, 99] then 8 else if a1.toList == [105, 110, 118, 105, 116, 101] then 8 else if a1.toList == [107, 110, 111, 99, 107] then 4 else if a1.toList == [114, 101, 115, 116, 114, 105, 99, 116, 101, 100] then 4
                else if a1.toList == [107, 110, 111, 99, 107, 95, 114, 101, 115, 116, 114, 105, 99, 116, 101, 100] then 4 else 0) := cnt_fin a1
            rcases which a1 with ⟨h1, h2, h3, h4, h5⟩ | ⟨h1, h2, h3, h4, h5⟩ | ⟨h1, h2, h3, h4, h5⟩ | ⟨h1, h2, h3, h4, h5⟩ | ⟨h1, h2, h3, h4, h5⟩ | ⟨h1, h2, h3, h4, h5⟩
            all_goals
              simp only [h1, h2, h3, h4, h5, if_true, if_false, Bool.false_eq_true] at hfin
              go_wp2
              go_ret
              exact ⟨rfl, hgr⟩
end Go.Proofs.Qxb6003643a
