/-
  Seat b6003611a: FnJoinAssociatesAndIsIdempotent, WALKED.
-/
import Derived.Test.Qxb6003611aJoinWalk
import Derived.Test.Qxb6003611aBytes15
namespace Go.Proofs.Qxb6003611a
open Go.RowKit Go.Maps

set_option maxRecDepth 100000 in
set_option maxHeartbeats 1000000 in
theorem walk4 (a0 a1 a2 : Option Addr) (len0 len1 len2 cap0 cap1 cap2 : Nat) (N0 N1 N2 : Nat → ByteArray) (S0 S1 S2 : Nat → Int) (w : World) (h0 : Ents w a0 len0 N0 S0) (h1 : Ents w a1 len1 N1 S1) (h2 : Ents w a2 len2 N2 S2) (m0 : len0 ≤ maxLen) (m1 : len1 ≤ maxLen) (m2 : len2 ≤ maxLen)
    (n0 : a0 = none → len0 = 0 ∧ cap0 = 0) (n1 : a1 = none → len1 = 0 ∧ cap1 = 0) (n2 : a2 = none → len2 = 0 ∧ cap2 = 0) :
    Calls Try.prog 4 #[.slice a0 len0 cap0, .slice a1 len1 cap1, .slice a2 len2 cap2] w fun e w' => e = .returned (.bool true) ∧ Below w.heap.size w w' := by
  have hmm := @run_makeMap Try.prog
  go_enter Try.func4, Try.ntmps4
  go_wp2_with fail
  refine (bytes15 a0 a1 a2 len0 len1 len2 cap0 cap1 cap2 N0 N1 N2 S0 S1 S2 w h0 m0 h1 m1 h2 m2).mono ?_
  rintro e w' ⟨⟨r, rfl, hr⟩, hw⟩
  obtain rfl := hw.symm
  cases r with
  | false =>
    go_wp2
    go_ret
    exact ⟨rfl, Below.refl _ _⟩
  | true =>
    obtain ⟨l0, l1, l2⟩ := hr rfl
    clear hr m0 m1 m2
    go_wp2_with fail
    refine (size_any a0 len0 cap0 N0 S0 0 w h0 l0).mono ?_
    rintro e w' ⟨⟨z0, rfl⟩, hw⟩
    obtain rfl := hw.symm
    go_wp2_with fail
    refine (size_any a1 len1 cap1 N1 S1 z0 w h1 l1).mono ?_
    rintro e w' ⟨⟨z1, rfl⟩, hw⟩
    obtain rfl := hw.symm
    go_wp2_with fail
    refine (size_any a2 len2 cap2 N2 S2 z1 w h2 l2).mono ?_
    rintro e w' ⟨⟨z2, rfl⟩, hw⟩
    obtain rfl := hw.symm
    go_wp2_with fail
    · go_ret
      exact ⟨rfl, Below.refl _ _⟩
    · refine (build_any a0 len0 cap0 N0 S0 w h0 n0 l0).mono ?_
      rintro e w1 ⟨va, rfl, hva, hb1⟩
      have hB1 : Below w.heap.size w w1 := hb1
      go_wp2_with fail
      refine (build_any a1 len1 cap1 N1 S1 w1 (h1.below hB1) n1 l1).mono ?_
      rintro e w2 ⟨vb, rfl, hvb, hb2⟩
      have hva2 := hva.below hb2
      have hB2 : Below w.heap.size w w2 := hB1.trans (hb2.mono hB1.size)
      go_wp2_with fail
      refine (build_any a2 len2 cap2 N2 S2 w2 (h2.below hB2) n2 l2).mono ?_
      rintro e w3 ⟨vc, rfl, hvc, hb3⟩
      have hva3 := hva2.below hb3
      have hvb3 := hvb.below hb3
      have hB3 : Below w.heap.size w w3 := hB2.trans (hb3.mono hB2.size)
      go_wp2_with fail
      refine (join_any va vb len0 len1 _ _ w3 hva3 hvb3 (by omega) (by omega)).mono ?_
      rintro e w4 ⟨rfl, hj, hb4⟩
      have hj4 : OM Try.prog 9 33 w4 w3.heap.size (len0 + len1) (J (bld N0 S0 len0) (bld N1 S1 len1)) := hj
      have hva4 := hva3.below hb4
      have hvb4 := hvb3.below hb4
      have hvc4 := hvc.below hb4
      have hB4 : Below w.heap.size w w4 := hB3.trans (hb4.mono hB3.size)
      go_wp2_with fail
      refine (join_any (.map (some w3.heap.size)) vc (len0 + len1) len2 _ _ w4 hj4.vm hvc4 (by omega) (by omega)).mono ?_
      rintro e w5 ⟨rfl, hL, hb5⟩
      have hL5 : OM Try.prog 9 33 w5 w4.heap.size (len0 + len1 + len2) (J (J (bld N0 S0 len0) (bld N1 S1 len1)) (bld N2 S2 len2)) := hL
      have hva5 := hva4.below hb5
      have hvb5 := hvb4.below hb5
      have hvc5 := hvc4.below hb5
      have hB5 : Below w.heap.size w w5 := hB4.trans (hb5.mono hB4.size)
      go_wp2_with fail
      refine (join_any vb vc len1 len2 _ _ w5 hvb5 hvc5 (by omega) (by omega)).mono ?_
      rintro e w6 ⟨rfl, hk, hb6⟩
      have hk6 : OM Try.prog 9 33 w6 w5.heap.size (len1 + len2) (J (bld N1 S1 len1) (bld N2 S2 len2)) := hk
      have hva6 := hva5.below hb6
      have hL6 := hL5.below hb6 hL5.lt
      have hB6 : Below w.heap.size w w6 := hB5.trans (hb6.mono hB5.size)
      go_wp2_with fail
      refine (join_any va (.map (some w5.heap.size)) len0 (len1 + len2) _ _ w6 hva6 hk6.vm (by omega) (by omega)).mono ?_
      rintro e w7 ⟨rfl, hR, hb7⟩
      have hR7 : OM Try.prog 9 33 w7 w6.heap.size (len0 + (len1 + len2)) (J (bld N0 S0 len0) (J (bld N1 S1 len1) (bld N2 S2 len2))) := hR
      rw [← J_assoc hva.wf hvb.wf hvc.wf] at hR7
      have hva7 := hva6.below hb7
      have hL7 := hL6.below hb7 hL6.lt
      have hB7 : Below w.heap.size w w7 := hB6.trans (hb7.mono hB6.size)
      go_wp2_with fail
      refine (join_any va va len0 len0 _ _ w7 hva7 hva7 (by omega) (by omega)).mono ?_
      rintro e w8 ⟨rfl, hS, hb8⟩
      have hS8 : OM Try.prog 9 33 w8 w7.heap.size (len0 + len0) (J (bld N0 S0 len0) (bld N0 S0 len0)) := hS
      rw [J_self hva.wf] at hS8
      have hva8 := hva7.below hb8
      have hvb8 := ((hvb5.below hb6).below hb7).below hb8
      have hvc8 := ((hvc5.below hb6).below hb7).below hb8
      have hL8 := hL7.below hb8 hL7.lt
      have hR8 := hR7.below hb8 hR7.lt
      have hB8 : Below w.heap.size w w8 := hB7.trans (hb8.mono hB7.size)
      have h08 := h0.below hB8
      have h18 := h1.below hB8
      have h28 := h2.below hB8
      rw [← lay_join3 N0 N1 N2 S0 S1 S2 len0 len1 len2 hva.wf hvb.wf hvc.wf] at hL8 hR8
      clear hva hva2 hva3 hva4 hva5 hva6 hva7 hvb hvb3 hvb4 hvb5 hvc hvc4 hvc5 hj hj4 hL hL5 hL6 hL7 hk hk6 hR hR7 hS hb1 hb2 hb3 hb4 hb5 hb6 hb7 hb8 hB1 hB2 hB3 hB4 hB5 hB6 hB7
      have hm := below_made w8
      go_wp2_with fail
      refine (putMax_any w8.heap.size 0 noneF a0 len0 cap0 N0 S0 va vb vc len0 len1 len2 _ _ _ _ (om_made _ _ _ _) (h08.below hm) (hva8.below hm) (hvb8.below hm) (hvc8.below hm) (hva8.ne (Nat.le_refl _)) (hvb8.ne (Nat.le_refl _)) (hvc8.ne (Nat.le_refl _)) l0 (by omega)).mono ?_
      rintro e w9 ⟨rfl, ho9, hg9⟩
      have hn9 : Below w8.heap.size w8 w9 := hm.grown hg9 hm.size (fun j hj => by cases hj; exact Nat.le_refl _)
      go_wp2_with fail
      refine (putMax_any w8.heap.size (0 + len0) _ a1 len1 cap1 N1 S1 va vb vc len0 len1 len2 _ _ _ w9 ho9 (h18.below hn9) (hva8.below hn9) (hvb8.below hn9) (hvc8.below hn9) (hva8.ne (Nat.le_refl _)) (hvb8.ne (Nat.le_refl _)) (hvc8.ne (Nat.le_refl _)) l1 (by omega)).mono ?_
      rintro e w10 ⟨rfl, ho10, hg10⟩
      have hn10 : Below w8.heap.size w8 w10 := hn9.grown hg10 hn9.size (fun j hj => by cases hj; exact Nat.le_refl _)
      go_wp2_with fail
      refine (putMax_any w8.heap.size (0 + len0 + len1) _ a2 len2 cap2 N2 S2 va vb vc len0 len1 len2 _ _ _ w10 ho10 (h28.below hn10) (hva8.below hn10) (hvb8.below hn10) (hvc8.below hn10) (hva8.ne (Nat.le_refl _)) (hvb8.ne (Nat.le_refl _)) (hvc8.ne (Nat.le_refl _)) l2 (by omega)).mono ?_
      rintro e w11 ⟨rfl, ho11, hg11⟩
      have hn11 : Below w8.heap.size w8 w11 := hn10.grown hg11 hn10.size (fun j hj => by cases hj; exact Nat.le_refl _)
      have hva11 := hva8.below hn11
      have hL11 := hL8.below hn11 hL8.lt
      have hR11 := hR8.below hn11 hR8.lt
      have hS11 := hS8.below hn11 hS8.lt
      have h011 := h08.below hn11
      have h111 := h18.below hn11
      have h211 := h28.below hn11
      have hB11 : Below w.heap.size w w11 := hB8.trans (hn11.mono hB8.size)
      clear hva8 hvb8 hvc8 hL8 hR8 hS8 h08 h18 h28 hm ho9 ho10 hg9 hg10 hg11 hn9 hn10 hn11 hB8
      have hm2 := below_made w11
      go_wp2_with fail
      refine (putSame_any w11.heap.size 0 noneF a0 len0 cap0 N0 S0 va len0 _ _ (om_made _ _ _ _) (h011.below hm2) (hva11.below hm2) (hva11.ne (Nat.le_refl _)) l0 (by omega)).mono ?_
      rintro e w12 ⟨rfl, ho12, hg12⟩
      rw [lay_same] at ho12
      have hn12 : Below w11.heap.size w11 w12 := hm2.grown hg12 hm2.size (fun j hj => by cases hj; exact Nat.le_refl _)
      go_wp2_with fail
      refine (same_any _ _ _ _ _ a0 a1 a2 len0 len1 len2 cap0 cap1 cap2 N0 N1 N2 S0 S1 S2 w12 (hL11.below hn12 hL11.lt) (ho11.below hn12 ho11.lt) (h011.below hn12) (h111.below hn12) (h211.below hn12) l0 l1 l2).mono ?_
      rintro e w' ⟨rfl, hw⟩
      obtain rfl := hw.symm
      go_wp2_with fail
      refine (same_any _ _ _ _ _ a0 a1 a2 len0 len1 len2 cap0 cap1 cap2 N0 N1 N2 S0 S1 S2 w12 (hR11.below hn12 hR11.lt) (ho11.below hn12 ho11.lt) (h011.below hn12) (h111.below hn12) (h211.below hn12) l0 l1 l2).mono ?_
      rintro e w' ⟨rfl, hw⟩
      obtain rfl := hw.symm
      go_wp2_with fail
      refine (same_any _ _ _ _ _ a0 none none len0 0 0 cap0 0 0 N0 N0 N0 S0 S0 S0 w12 (hS11.below hn12 hS11.lt) ho12 (h011.below hn12) (ents_nil _ _ _) (ents_nil _ _ _) l0 (by omega) (by omega)).mono ?_
      rintro e w' ⟨rfl, hw⟩
      obtain rfl := hw.symm
      go_wp2
      go_ret
      exact ⟨rfl, hB11.trans (hn12.mono hB11.size)⟩
end Go.Proofs.Qxb6003611a
