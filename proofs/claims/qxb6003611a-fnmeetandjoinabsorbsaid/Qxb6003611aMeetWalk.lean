/-
  Seat b6003611a: FnMeetIsPositivePointwiseMinEitherWay, WALKED.
-/
import Derived.Test.Qxb6003611aSame
import Derived.Test.Qxb6003611aBytes
namespace Go.Proofs.Qxb6003611a
open Go.RowKit Go.Maps

/-- zzBuild, whatever the slice. -/
theorem build_any (a : Option Addr) (len cap : Nat) (N : Nat → ByteArray) (S : Nat → Int) (w : World) (h : Ents w a len N S) (hn : a = none → len = 0 ∧ cap = 0) (hlen : len ≤ 1048576) :
    Calls Try.prog 11 #[.slice a len cap] w fun e w' => ∃ v, e = .returned v ∧ VM Try.prog 9 33 w' v len (bld N S len) ∧ Below w.heap.size w w' := by
  cases a with
  | none =>
    obtain ⟨rfl, rfl⟩ := hn rfl
    exact (build_nil w).mono fun e w' ⟨he, hw⟩ => ⟨_, he, .inl ⟨rfl, rfl⟩, by rw [hw]; exact Below.refl _ _⟩
  | some ad => exact (build_some ad len cap N S w h hlen).mono fun e w' ⟨he, ho, hb⟩ => ⟨_, he, ho.vm, hb⟩


theorem ents_nil (w : World) (N : Nat → ByteArray) (S : Nat → Int) : Ents w none 0 N S := .inl rfl

set_option maxRecDepth 100000 in
set_option maxHeartbeats 1000000 in
theorem walk5 (a0 a1 : Option Addr) (len0 len1 cap0 cap1 : Nat) (N0 N1 : Nat → ByteArray) (S0 S1 : Nat → Int) (w : World) (h0 : Ents w a0 len0 N0 S0) (h1 : Ents w a1 len1 N1 S1) (m0 : len0 ≤ maxLen) (m1 : len1 ≤ maxLen)
    (n0 : a0 = none → len0 = 0 ∧ cap0 = 0) (n1 : a1 = none → len1 = 0 ∧ cap1 = 0) :
    Calls Try.prog 5 #[.slice a0 len0 cap0, .slice a1 len1 cap1] w fun e w' => e = .returned (.bool true) ∧ Below w.heap.size w w' := by
  have hmm := @run_makeMap Try.prog
  go_enter Try.func5, Try.ntmps5
  go_wp2_with fail
  refine (bytes17 a0 a1 len0 len1 cap0 cap1 N0 N1 S0 S1 w h0 m0 h1 m1).mono ?_
  rintro e w' ⟨⟨r, rfl, hr⟩, hw⟩
  obtain rfl := hw.symm
  cases r with
  | false =>
    go_wp2
    go_ret
    exact ⟨rfl, Below.refl _ _⟩
  | true =>
    obtain ⟨l0, l1⟩ := hr rfl
    clear hr m0 m1
    go_wp2_with fail
    refine (size_any a0 len0 cap0 N0 S0 0 w h0 l0).mono ?_
    rintro e w' ⟨⟨z0, rfl⟩, hw⟩
    obtain rfl := hw.symm
    go_wp2_with fail
    refine (size_any a1 len1 cap1 N1 S1 z0 w h1 l1).mono ?_
    rintro e w' ⟨⟨z1, rfl⟩, hw⟩
    obtain rfl := hw.symm
    go_wp2_with fail
    · go_ret
      exact ⟨rfl, Below.refl _ _⟩
    · refine (build_any a0 len0 cap0 N0 S0 w h0 n0 l0).mono ?_
      rintro e w1 ⟨va, rfl, hva, hb1⟩
      have h1' := h1.below hb1
      go_wp2_with fail
      refine (build_any a1 len1 cap1 N1 S1 w1 h1' n1 l1).mono ?_
      rintro e w2 ⟨vb, rfl, hvb, hb2⟩
      have hva2 := hva.below hb2
      go_wp2_with fail
      refine (meet_any va vb len0 len1 _ _ w2 hva2 hvb (by omega)).mono ?_
      rintro e w3 ⟨rfl, hab, hb3⟩
      have hva3 := hva2.below hb3
      have hvb3 := hvb.below hb3
      go_wp2_with fail
      refine (meet_any vb va len1 len0 _ _ w3 hvb3 hva3 (by omega)).mono ?_
      rintro e w4 ⟨rfl, hba, hb4⟩
      have hva4 := hva3.below hb4
      have hvb4 := hvb3.below hb4
      have hab4 := hab.below hb4 hab.lt
      have hB4 : Below w.heap.size w w4 := ((hb1.trans (hb2.mono hb1.size)).trans (hb3.mono (Nat.le_trans hb1.size hb2.size))).trans (hb4.mono (Nat.le_trans hb1.size (Nat.le_trans hb2.size hb3.size)))
      have h04 := h0.below hB4
      have h14 := h1.below hB4
      rw [meet_comm] at hba
      clear hva hva2 hva3 hvb hvb3 hab h1' hb1 hb2 hb3 hb4
      go_wp2
      go_loopw [10] (fun i wr => ∃ k : Nat, k ≤ len0 ∧ i = .int .i64 k ∧ OM Try.prog 9 33 wr w4.heap.size k (lay noneF (minF (bld N0 S0 len0) (bld N1 S1 len1)) N0 k) ∧ Below w4.heap.size w4 wr) (fun i _ => len0 - (intOf i).toNat)
      case atStart => exact ⟨0, Nat.zero_le _, rfl, om_made _ _ _ _, (Below.refl _ _).alloc (Nat.le_refl _) _⟩
      case round =>
        obtain ⟨k, hk, rfl, hown, hnx⟩ := hrel
        by_cases hlk : k < len0
        · obtain ⟨b, off, ea, c1, _, c3, _⟩ := (h04.below hnx).cells k hlk
          subst ea
          have r1 := (hva4.below hnx).look (t := 26) Try.underlying9 Try.underlying33 Try.underlying26 (zero33 _) c3
          have r2 := (hvb4.below hnx).look (t := 26) Try.underlying9 Try.underlying33 Try.underlying26 (zero33 _) c3
          obtain ⟨g0, g1⟩ := at0_wf hva4.wf (kS (N0 k))
          obtain ⟨g2, g3⟩ := at0_wf hvb4.wf (kS (N0 k))
          by_cases hp : 0 < min (at0 (bld N0 S0 len0) (kS (N0 k))) (at0 (bld N1 S1 len1) (kS (N0 k)))
          · have HF : Hid (minF (bld N0 S0 len0) (bld N1 S1 len1) (kS (N0 k)) = some (min (at0 (bld N0 S0 len0) (kS (N0 k))) (at0 (bld N1 S1 len1) (kS (N0 k))))) := by unfold minF; rw [if_pos hp]; rfl
            go_wp2_with (first
              | (go_at_call 19; refine (min_any _ _ _).mono ?_; rintro e w' ⟨rfl, rfl⟩)
              | (at_mapUpdate; refine wpList_put (P := Try.prog) (k := 9) (e := 33) _ rfl _ _ _ 25 rfl Try.underlying9 Try.underlying33 Try.underlying25 w4.heap.size _ _ rfl hown (by unfold maxLen; omega) (N0 k) _ rfl rfl c3 (by omega) (by omega) ?_; intro w5 hown5 hgrow5; go_frame))
            go_roundw
            case rel =>
              refine ⟨k + 1, by omega, by go_num, ?_, hnx.grown hgrow5 hnx.size (fun j hj => by cases hj; exact Nat.le_refl _)⟩
              rw [lay, HF.out]
              exact hown5
            case measure => simp [intOf]; omega
          · have HF : Hid (minF (bld N0 S0 len0) (bld N1 S1 len1) (kS (N0 k)) = none) := by unfold minF; rw [if_neg hp]; rfl
            go_wp2_with (first
              | (go_at_call 19; refine (min_any _ _ _).mono ?_; rintro e w' ⟨rfl, rfl⟩))
            go_roundw
            case rel =>
              refine ⟨k + 1, by omega, by go_num, ?_, hnx⟩
              rw [lay, HF.out]
              exact hown.mono (Nat.le_succ _)
            case measure => simp [intOf]; omega
        · have : k = len0 := by omega
          subst this
          rw [lay_meet] at hown
          have hab5 := hab4.below hnx hab4.lt
          have hba5 := hba.below hnx hba.lt
          go_wp2_with fail
          refine (same_any _ _ _ _ _ a0 a1 none k len1 0 cap0 cap1 0 N0 N1 N0 S0 S1 S0 wr hab5 hown (h04.below hnx) (h14.below hnx) (ents_nil _ _ _) l0 l1 (by omega)).mono ?_
          rintro e w' ⟨rfl, hw⟩
          obtain rfl := hw.symm
          go_wp2_with fail
          refine (same_any _ _ _ _ _ a0 a1 none k len1 0 cap0 cap1 0 N0 N1 N0 S0 S1 S0 wr hba5 hown (h04.below hnx) (h14.below hnx) (ents_nil _ _ _) l0 l1 (by omega)).mono ?_
          rintro e w' ⟨rfl, hw⟩
          obtain rfl := hw.symm
          go_wp2
          go_ret
          exact ⟨rfl, hB4.trans (hnx.mono hB4.size)⟩
end Go.Proofs.Qxb6003611a
