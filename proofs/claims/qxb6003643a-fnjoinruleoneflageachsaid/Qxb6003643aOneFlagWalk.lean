/-
  Seat b6003643a: FnJoinRuleOneFlagEach, WALKED.
-/
import Derived.Test.Qxb6003643aCountedWalk
namespace Go.Proofs.Qxb6003643a
open Go.RowKit

set_option maxHeartbeats 4000000 in
theorem walk6 (a0 : ByteArray) (a1 : ByteArray) (a2 : Bool) (a3 : Bool) (a4 : Bool) (w0 : a0.size ≤ maxLen) (w1 : a1.size ≤ maxLen) (w : World) :
    Calls Try.prog 6 #[.string a0, .string a1, .bool a2, .bool a3, .bool a4] w fun e w' => e = .returned (.bool true) ∧ Grown w w' := by
  go_enter Try.func6, Try.ntmps6
  go_wp2_with fail
  refine (bytes17 a0 a1 a2 a3 a4 w w0 w1).mono ?_
  rintro e w' ⟨⟨r, rfl⟩, hw⟩
  obtain rfl := hw.symm
  unfold maxLen at w0 w1
  cases r with
  | false =>
    go_wp2
    go_ret
    exact ⟨rfl, Grown.refl _⟩
  | true =>
    by_cases l0 : 65536 < a0.size
    · go_wp2
      go_ret
      exact ⟨rfl, Grown.refl _⟩
    · by_cases l1 : 65536 < a1.size
      · go_wp2
        go_ret
        exact ⟨rfl, Grown.refl _⟩
      · have d0 : decide (65536 < (a0.size : Int)) = false := by simp; omega
        have d1 : decide (65536 < (a1.size : Int)) = false := by simp; omega
        clear l0 l1
        go_wp2_with fail
        refine (new_any a0 a2 a3 a4 w).mono ?_
        rintro e wa ⟨rfl, ⟨c1, c2, c3⟩, hga⟩
        go_wp2_with fail
        refine (zknows_any w.heap.size a1 a2 a3 a4 wa c1 c2 c3).mono ?_
        rintro e w' ⟨rfl, hw⟩
        obtain rfl := hw.symm
        clear c1 c2 c3
        go_wp2_with fail
        refine (new_any a0 false false false wa).mono ?_
        rintro e wb ⟨rfl, ⟨c1, c2, c3⟩, hgb⟩
        go_wp2_with fail
        refine (zknows_any wa.heap.size a1 false false false wb c1 c2 c3).mono ?_
        rintro e w' ⟨rfl, hw⟩
        obtain rfl := hw.symm
        clear c1 c2 c3
        go_wp2_with fail
        refine (new_any a0 true false false wb).mono ?_
        rintro e wc ⟨rfl, ⟨c1, c2, c3⟩, hgc⟩
        go_wp2_with fail
        refine (zknows_any wb.heap.size a1 true false false wc c1 c2 c3).mono ?_
        rintro e w' ⟨rfl, hw⟩
        obtain rfl := hw.symm
        clear c1 c2 c3
        go_wp2_with fail
        refine (new_any a0 false true false wc).mono ?_
        rintro e wd ⟨rfl, ⟨c1, c2, c3⟩, hgd⟩
        go_wp2_with fail
        refine (zknows_any wc.heap.size a1 false true false wd c1 c2 c3).mono ?_
        rintro e w' ⟨rfl, hw⟩
        obtain rfl := hw.symm
        clear c1 c2 c3
        go_wp2_with fail
        refine (new_any a0 false false true wd).mono ?_
        rintro e we ⟨rfl, ⟨c1, c2, c3⟩, hge⟩
        go_wp2_with fail
        refine (zknows_any wd.heap.size a1 false false true we c1 c2 c3).mono ?_
        rintro e w' ⟨rfl, hw⟩
        obtain rfl := hw.symm
        clear c1 c2 c3
        have hgr := grown_trans (grown_trans (grown_trans (grown_trans hga hgb) hgc) hgd) hge
        clear hga hgb hgc hgd hge
        rcases which a1 with ⟨h1, h2, h3, h4, h5⟩ | ⟨h1, h2, h3, h4, h5⟩ | ⟨h1, h2, h3, h4, h5⟩ | ⟨h1, h2, h3, h4, h5⟩ | ⟨h1, h2, h3, h4, h5⟩ | ⟨h1, h2, h3, h4, h5⟩ <;> cases a2 <;> cases a3 <;> cases a4
        all_goals
          simp only [knows, h1, h2, h3, h4, h5, if_true, if_false, Bool.false_eq_true]
          go_wp2
          go_ret
          exact ⟨rfl, hgr⟩
end Go.Proofs.Qxb6003643a
