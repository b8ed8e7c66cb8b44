/-
  Seat b6003611a: FnJoinIsPointwiseMaxEitherWay, WALKED.
-/
import Derived.Test.Qxb6003611aMeetWalk
import Derived.Test.Qxb6003611aLaws2
import Derived.Test.Qxb6003611aBytes9
namespace Go.Proofs.Qxb6003611a
open Go.RowKit Go.Maps

theorem vm_nil (w : World) (n : Nat) : VM Try.prog 9 33 w (.map none) n noneF := .inl ⟨rfl, rfl⟩
theorem below_made (w : World) : Below w.heap.size w (w.alloc (.map #[] 0)) := (Below.refl _ _).alloc (Nat.le_refl _) _

set_option maxRecDepth 100000 in
set_option maxHeartbeats 1000000 in
theorem walk3 (a0 a1 : Option Addr) (len0 len1 cap0 cap1 : Nat) (N0 N1 : Nat → ByteArray) (S0 S1 : Nat → Int) (w : World) (h0 : Ents w a0 len0 N0 S0) (h1 : Ents w a1 len1 N1 S1) (m0 : len0 ≤ maxLen) (m1 : len1 ≤ maxLen)
    (n0 : a0 = none → len0 = 0 ∧ cap0 = 0) (n1 : a1 = none → len1 = 0 ∧ cap1 = 0) :
    Calls Try.prog 3 #[.slice a0 len0 cap0, .slice a1 len1 cap1] w fun e w' => e = .returned (.bool true) ∧ Below w.heap.size w w' := by
  have hmm := @run_makeMap Try.prog
  go_enter Try.func3, Try.ntmps3
  go_wp2_with fail
  refine (bytes9 a0 a1 len0 len1 cap0 cap1 N0 N1 S0 S1 w h0 m0 h1 m1).mono ?_
  rintro e w' ⟨⟨r, rfl, hr⟩, hw⟩
  obtain rfl := hw.symm
  cases r with
  | false =>
    go_wp2
    go_ret
    exact ⟨rfl, Below.refl _ _⟩
  | true =>
    obtain ⟨l0, l1⟩ := hr rfl
    clear hr m0 m1
    go_wp2_with fail
    refine (size_any a0 len0 cap0 N0 S0 0 w h0 l0).mono ?_
    rintro e w' ⟨⟨z0, rfl⟩, hw⟩
    obtain rfl := hw.symm
    go_wp2_with fail
    refine (size_any a1 len1 cap1 N1 S1 z0 w h1 l1).mono ?_
    rintro e w' ⟨⟨z1, rfl⟩, hw⟩
    obtain rfl := hw.symm
    go_wp2_with fail
    · go_ret
      exact ⟨rfl, Below.refl _ _⟩
    · refine (build_any a0 len0 cap0 N0 S0 w h0 n0 l0).mono ?_
      rintro e w1 ⟨va, rfl, hva, hb1⟩
      have h1' := h1.below hb1
      go_wp2_with fail
      refine (build_any a1 len1 cap1 N1 S1 w1 h1' n1 l1).mono ?_
      rintro e w2 ⟨vb, rfl, hvb, hb2⟩
      have hva2 := hva.below hb2
      go_wp2_with fail
      refine (join_any va vb len0 len1 _ _ w2 hva2 hvb (by omega) (by omega)).mono ?_
      rintro e w3 ⟨rfl, hab, hb3⟩
      have hva3 := hva2.below hb3
      have hvb3 := hvb.below hb3
      go_wp2_with fail
      refine (join_any vb va len1 len0 _ _ w3 hvb3 hva3 (by omega) (by omega)).mono ?_
      rintro e w4 ⟨rfl, hba, hb4⟩
      have hva4 := hva3.below hb4
      have hvb4 := hvb3.below hb4
      have hab4 : OM Try.prog 9 33 w4 w2.heap.size (len0 + len1) (J (bld N0 S0 len0) (bld N1 S1 len1)) := hab.below hb4 hab.lt
      have hba4 : OM Try.prog 9 33 w4 w3.heap.size (len1 + len0) (J (bld N1 S1 len1) (bld N0 S0 len0)) := hba
      rw [J_comm hvb4.wf hva4.wf] at hba4
      have hB4 : Below w.heap.size w w4 := ((hb1.trans (hb2.mono hb1.size)).trans (hb3.mono (Nat.le_trans hb1.size hb2.size))).trans (hb4.mono (Nat.le_trans hb1.size (Nat.le_trans hb2.size hb3.size)))
      have h04 := h0.below hB4
      have h14 := h1.below hB4
      have hlaw := lay_join2 N0 N1 S0 S1 len0 len1 hva4.wf hvb4.wf
      have HL : Hid (lay (lay noneF (maxF (bld N0 S0 len0) (bld N1 S1 len1) noneF) N0 len0) (maxF (bld N0 S0 len0) (bld N1 S1 len1) noneF) N1 len1 = J (bld N0 S0 len0) (bld N1 S1 len1)) := hlaw
      clear hva hva2 hva3 hvb hvb3 hab hba h1' hb1 hb2 hb3 hb4 hlaw
      have hm := below_made w4
      go_wp2_with fail
      refine (putMax_any w4.heap.size 0 noneF a0 len0 cap0 N0 S0 va vb (.map none) len0 len1 0 _ _ noneF _ (om_made _ _ _ _) (h04.below hm) (hva4.below hm) (hvb4.below hm) (vm_nil _ _) (hva4.ne (Nat.le_refl _)) (hvb4.ne (Nat.le_refl _)) (by simp) l0 (by omega)).mono ?_
      rintro e w5 ⟨rfl, ho5, hg5⟩
      have hn5 : Below w4.heap.size w4 w5 := hm.grown hg5 hm.size (fun j hj => by cases hj; exact Nat.le_refl _)
      go_wp2_with fail
      refine (putMax_any w4.heap.size (0 + len0) _ a1 len1 cap1 N1 S1 va vb (.map none) len0 len1 0 _ _ noneF w5 ho5 (h14.below hn5) (hva4.below hn5) (hvb4.below hn5) (vm_nil _ _) (hva4.ne (Nat.le_refl _)) (hvb4.ne (Nat.le_refl _)) (by simp) l1 (by omega)).mono ?_
      rintro e w6 ⟨rfl, ho6, hg6⟩
      have hn6 : Below w4.heap.size w4 w6 := hn5.grown hg6 hn5.size (fun j hj => by cases hj; exact Nat.le_refl _)
      rw [HL.out] at ho6
      go_wp2_with fail
      refine (same_any _ _ _ _ _ a0 a1 none len0 len1 0 cap0 cap1 0 N0 N1 N0 S0 S1 S0 w6 (hab4.below hn6 hab4.lt) ho6 (h04.below hn6) (h14.below hn6) (ents_nil _ _ _) l0 l1 (by omega)).mono ?_
      rintro e w' ⟨rfl, hw⟩
      obtain rfl := hw.symm
      go_wp2_with fail
      refine (same_any _ _ _ _ _ a0 a1 none len0 len1 0 cap0 cap1 0 N0 N1 N0 S0 S1 S0 w6 (hba4.below hn6 hba4.lt) ho6 (h04.below hn6) (h14.below hn6) (ents_nil _ _ _) l0 l1 (by omega)).mono ?_
      rintro e w' ⟨rfl, hw⟩
      obtain rfl := hw.symm
      go_wp2
      go_ret
      exact ⟨rfl, hB4.trans (hn6.mono hB4.size)⟩
end Go.Proofs.Qxb6003611a
