/-
  Seat b6003611a: FnMeetAndJoinAbsorb, WALKED.
-/
import Derived.Test.Qxb6003611aJoinWalk
import Derived.Test.Qxb6003611aBytes20
namespace Go.Proofs.Qxb6003611a
open Go.RowKit Go.Maps

set_option maxRecDepth 100000 in
set_option maxHeartbeats 1000000 in
theorem walk6 (a0 a1 : Option Addr) (len0 len1 cap0 cap1 : Nat) (N0 N1 : Nat → ByteArray) (S0 S1 : Nat → Int) (w : World) (h0 : Ents w a0 len0 N0 S0) (h1 : Ents w a1 len1 N1 S1) (m0 : len0 ≤ maxLen) (m1 : len1 ≤ maxLen)
    (n0 : a0 = none → len0 = 0 ∧ cap0 = 0) (n1 : a1 = none → len1 = 0 ∧ cap1 = 0) :
    Calls Try.prog 6 #[.slice a0 len0 cap0, .slice a1 len1 cap1] w fun e w' => e = .returned (.bool true) ∧ Below w.heap.size w w' := by
  have hmm := @run_makeMap Try.prog
  go_enter Try.func6, Try.ntmps6
  go_wp2_with fail
  refine (bytes20 a0 a1 len0 len1 cap0 cap1 N0 N1 S0 S1 w h0 m0 h1 m1).mono ?_
  rintro e w' ⟨⟨r, rfl, hr⟩, hw⟩
  obtain rfl := hw.symm
  cases r with
  | false =>
    go_wp2
    go_ret
    exact ⟨rfl, Below.refl _ _⟩
  | true =>
    obtain ⟨l0, l1⟩ := hr rfl
    clear hr m0 m1
    go_wp2_with fail
    refine (size_any a0 len0 cap0 N0 S0 0 w h0 l0).mono ?_
    rintro e w' ⟨⟨z0, rfl⟩, hw⟩
    obtain rfl := hw.symm
    go_wp2_with fail
    refine (size_any a1 len1 cap1 N1 S1 z0 w h1 l1).mono ?_
    rintro e w' ⟨⟨z1, rfl⟩, hw⟩
    obtain rfl := hw.symm
    go_wp2_with fail
    · go_ret
      exact ⟨rfl, Below.refl _ _⟩
    · refine (build_any a0 len0 cap0 N0 S0 w h0 n0 l0).mono ?_
      rintro e w1 ⟨va, rfl, hva, hb1⟩
      have hB1 : Below w.heap.size w w1 := hb1
      go_wp2_with fail
      refine (build_any a1 len1 cap1 N1 S1 w1 (h1.below hB1) n1 l1).mono ?_
      rintro e w2 ⟨vb, rfl, hvb, hb2⟩
      have hva2 := hva.below hb2
      have hB2 : Below w.heap.size w w2 := hB1.trans (hb2.mono hB1.size)
      go_wp2_with fail
      refine (meet_any va vb len0 len1 _ _ w2 hva2 hvb (by omega)).mono ?_
      rintro e w3 ⟨rfl, hmt, hb3⟩
      have hva3 := hva2.below hb3
      have hvb3 := hvb.below hb3
      have hB3 : Below w.heap.size w w3 := hB2.trans (hb3.mono hB2.size)
      go_wp2_with fail
      refine (join_any va (.map (some w2.heap.size)) len0 len0 _ _ w3 hva3 hmt.vm (by omega) (by omega)).mono ?_
      rintro e w4 ⟨rfl, hp, hb4⟩
      have hp4 : OM Try.prog 9 33 w4 w3.heap.size (len0 + len0) (J (bld N0 S0 len0) (meetF (bld N0 S0 len0) (bld N1 S1 len1))) := hp
      rw [J_meet hva.wf] at hp4
      have hva4 := hva3.below hb4
      have hvb4 := hvb3.below hb4
      have hB4 : Below w.heap.size w w4 := hB3.trans (hb4.mono hB3.size)
      go_wp2_with fail
      refine (join_any va vb len0 len1 _ _ w4 hva4 hvb4 (by omega) (by omega)).mono ?_
      rintro e w5 ⟨rfl, hj, hb5⟩
      have hj5 : OM Try.prog 9 33 w5 w4.heap.size (len0 + len1) (J (bld N0 S0 len0) (bld N1 S1 len1)) := hj
      have hva5 := hva4.below hb5
      have hp5 := hp4.below hb5 hp4.lt
      have hB5 : Below w.heap.size w w5 := hB4.trans (hb5.mono hB4.size)
      go_wp2_with fail
      refine (meet_any va (.map (some w4.heap.size)) len0 (len0 + len1) _ _ w5 hva5 hj5.vm (by omega)).mono ?_
      rintro e w6 ⟨rfl, hq6, hb6⟩
      have hva6 := hva5.below hb6
      have hp6 := hp5.below hb6 hp5.lt
      have hB6 : Below w.heap.size w w6 := hB5.trans (hb6.mono hB5.size)
      have h06 := h0.below hB6
      have h16 := h1.below hB6
      rw [← lay_pos N0 S0 len0 hva.wf] at hq6
      clear hva2 hva3 hva4 hva5 hvb hvb3 hvb4 hmt hp hp4 hp5 hj hj5 hb1 hb2 hb3 hb4 hb5 hb6 hB1 hB2 hB3 hB4 hB5
      have hm := below_made w6
      go_wp2_with fail
      refine (putSame_any w6.heap.size 0 noneF a0 len0 cap0 N0 S0 va len0 _ _ (om_made _ _ _ _) (h06.below hm) (hva6.below hm) (hva6.ne (Nat.le_refl _)) l0 (by omega)).mono ?_
      rintro e w7 ⟨rfl, ho7, hg7⟩
      rw [lay_same] at ho7
      have hn7 : Below w6.heap.size w6 w7 := hm.grown hg7 hm.size (fun j hj => by cases hj; exact Nat.le_refl _)
      have hva7 := hva6.below hn7
      have hp7 := hp6.below hn7 hp6.lt
      have hq7 := hq6.below hn7 hq6.lt
      have h07 := h06.below hn7
      have h17 := h16.below hn7
      have hB7 : Below w.heap.size w w7 := hB6.trans (hn7.mono hB6.size)
      clear hva6 hp6 hq6 h06 h16 hn7 hm hB6 hg7
      go_wp2
      go_loopw [11] (fun i wr => ∃ k : Nat, k ≤ len0 ∧ i = .int .i64 k ∧ OM Try.prog 9 33 wr w7.heap.size k (lay noneF (posF (bld N0 S0 len0)) N0 k) ∧ Below w7.heap.size w7 wr) (fun i _ => len0 - (intOf i).toNat)
      case atStart => exact ⟨0, Nat.zero_le _, rfl, om_made _ _ _ _, below_made _⟩
      case round =>
        obtain ⟨k, hk, rfl, hown, hnx⟩ := hrel
        by_cases hlk : k < len0
        · obtain ⟨b, off, ea, c1, _, c3, _⟩ := (h07.below hnx).cells k hlk
          subst ea
          have r1 := (hva7.below hnx).look (t := 26) Try.underlying9 Try.underlying33 Try.underlying26 (zero33 _) c3
          obtain ⟨g0, g1⟩ := at0_wf hva7.wf (kS (N0 k))
          by_cases hp : 0 < at0 (bld N0 S0 len0) (kS (N0 k))
          · have HF : Hid (posF (bld N0 S0 len0) (kS (N0 k)) = some (at0 (bld N0 S0 len0) (kS (N0 k)))) := by unfold posF; rw [if_pos hp]; rfl
            go_wp2_with (first
              | (at_mapUpdate; refine wpList_put (P := Try.prog) (k := 9) (e := 33) _ rfl _ _ _ 25 rfl Try.underlying9 Try.underlying33 Try.underlying25 w7.heap.size _ _ rfl hown (by unfold maxLen; omega) (N0 k) _ rfl rfl c3 g0 g1 ?_; intro w8 hown8 hgrow8; go_frame))
            go_roundw
            case rel =>
              refine ⟨k + 1, by omega, by go_num, ?_, hnx.grown hgrow8 hnx.size (fun j hj => by cases hj; exact Nat.le_refl _)⟩
              rw [lay, HF.out]
              exact hown8
            case measure => simp [intOf]; omega
          · have HF : Hid (posF (bld N0 S0 len0) (kS (N0 k)) = none) := by unfold posF; rw [if_neg hp]; rfl
            go_wp2
            go_roundw
            case rel =>
              refine ⟨k + 1, by omega, by go_num, ?_, hnx⟩
              rw [lay, HF.out]
              exact hown.mono (Nat.le_succ _)
            case measure => simp [intOf]; omega
        · have : k = len0 := by omega
          subst this
          go_wp2_with fail
          refine (same_any _ _ _ _ _ a0 a1 none k len1 0 cap0 cap1 0 N0 N1 N0 S0 S1 S0 wr (hp7.below hnx hp7.lt) (ho7.below hnx ho7.lt) (h07.below hnx) (h17.below hnx) (ents_nil _ _ _) l0 l1 (by omega)).mono ?_
          rintro e w' ⟨rfl, hw⟩
          obtain rfl := hw.symm
          go_wp2_with fail
          refine (same_any _ _ _ _ _ a0 a1 none k len1 0 cap0 cap1 0 N0 N1 N0 S0 S1 S0 wr (hq7.below hnx hq7.lt) hown (h07.below hnx) (h17.below hnx) (ents_nil _ _ _) l0 l1 (by omega)).mono ?_
          rintro e w' ⟨rfl, hw⟩
          obtain rfl := hw.symm
          go_wp2
          go_ret
          exact ⟨rfl, hB7.trans (hnx.mono hB7.size)⟩
end Go.Proofs.Qxb6003611a
