/-
  Seat b6003611a: Version.Meet, WALKED.
-/
import Derived.Test.Qxb6003611aLeaves
import Derived.Test.Qxb6003611aPlain
namespace Go.Proofs.Qxb6003611a
open Go.RowKit Go.Maps

theorem zero33 (w : World) : (zeroValue 33).run Try.prog w = .ok (.int .u64 0) w := by kernel_rfl

theorem VM.ne {P : Program} {k e : TypeId} {w : World} {v : Value} {n : Nat} {f : Lit → Option Int} (h : VM P k e w v n f) {b : Nat} (hb : w.heap.size ≤ b) : v ≠ .map (some b) := by
  rcases h with ⟨rfl, _⟩ | ⟨b', rfl, h⟩
  · simp
  · have := h.lt
    intro e1
    cases e1
    omega

set_option maxRecDepth 100000 in
theorem meet_any (v o : Value) (n m : Nat) (f g : Lit → Option Int) (w : World) (hv : VM Try.prog 9 33 w v n f) (ho : VM Try.prog 9 33 w o m g) (hn : n ≤ 4194304) :
    Calls Try.prog 18 #[v, o] w fun e w' => e = .returned (.map (some w.heap.size)) ∧ OM Try.prog 9 33 w' w.heap.size n (meetF f g) ∧ Below w.heap.size w w' := by
  have hmm := @run_makeMap Try.prog
  have e1 : (w.alloc (.map #[] 0)).heap.size = w.heap.size + 1 := by simp
  have hB : Below w.heap.size w (w.alloc (.map #[] 0)) := (Below.refl _ _).alloc (Nat.le_refl _) _
  go_enter Try.func18, Try.ntmps18
  go_wp2_with (first
    | (at_range; refine wpList_rangeV (P := Try.prog) (k := 9) (e := 33) _ rfl _ 26 rfl Try.underlying9 Try.underlying26 v n f rfl (hv.below hB) ?_; intro w0 cnt0 hrg0 hc0 hg0 hs0)
    | go_in)
  go_frame
  rw [e1] at hrg0 hs0 ⊢
  go_loopw [6] (fun _ wr => ∃ (left : Lit → Bool) (cnt : Nat), RG Try.prog 9 33 wr v (w.heap.size + 1) n f left cnt ∧ cnt ≤ n ∧ OM Try.prog 9 33 wr w.heap.size (n - cnt) (partM f g left) ∧ Below w.heap.size w wr)
    (fun _ wr => leftN wr v (w.heap.size + 1))
  case atStart =>
    refine ⟨_, _, hrg0, hc0, ?_, hB.grown hg0 (by simp) (fun j hj => by cases hj)⟩
    rw [partM_start]
    exact ((om_made _ _ _ _).kept hg0 (by simp)).mono (Nat.zero_le _)
  case round =>
    obtain ⟨left, cnt, hrg, hcn, hout, hnx⟩ := hrel
    go_wp2_with (first
      | (at_next; refine wpList_nextV (P := Try.prog) (k := 9) (e := 33) _ rfl _ rfl Try.underlying9 Try.underlying33 v (w.heap.size + 1) n f left cnt rfl hrg ?_ ?_)
      | go_in)
    · intro hc1 hl0
      go_wp2
      go_ret
      rw [partM_end hl0] at hout
      exact ⟨rfl, hout.mono (by omega), hnx⟩
    · intro s c w1 cnt1 hs hc0' hc1' hls hfs hrg1 hlt hg1 hs1 hen
      have hnx1 : Below w.heap.size w w1 := hnx.grown hg1 hnx.size (fun j hj => by cases hj; exact Nat.le_succ _)
      have hlook := (ho.below hnx1).look (t := 26) Try.underlying9 Try.underlying33 Try.underlying26 (zero33 _) hs
      have hout1 := hout.kept hg1 (by simp)
      have hmin : (if at0 g (kS s) < c then at0 g (kS s) else c) = min c (at0 g (kS s)) := by split <;> omega
      have HM : Hid ((if at0 g (kS s) < c then at0 g (kS s) else c) = min c (at0 g (kS s))) := hmin
      obtain ⟨g0, g1⟩ := at0_wf ho.wf (kS s)
      clear hmin
      go_wp2_with (first
        | (at_mapUpdate; refine wpList_put (P := Try.prog) (k := 9) (e := 33) _ rfl _ _ _ 26 rfl Try.underlying9 Try.underlying33 Try.underlying26 w.heap.size _ _ rfl hout1 (by unfold maxLen; omega) s _ rfl rfl hs (by split <;> omega) (by split <;> omega) ?_; intro w2 hown2 hgrow2; go_frame)
        | go_in)
      · have hpos : 0 < if at0 g (kS s) < c then at0 g (kS s) else c := by assumption
        rw [HM.out] at hpos hown2
        rw [partM_put (key_kS s) hfs hpos] at hown2
        have hrg2 := hrg1.kept hgrow2 (fun b hb => by cases hb; exact hv.ne (Nat.le_refl _)) (by simp)
        go_roundw
        case rel => exact ⟨_, cnt1, hrg2, by omega, hown2.mono (by omega), hnx1.grown hgrow2 hnx1.size (fun j hj => by cases hj; exact Nat.le_refl _)⟩
        case measure => rw [hrg2.left_eq, hrg.left_eq]; exact hlt
      · have hpos : (if at0 g (kS s) < c then at0 g (kS s) else c) ≤ 0 := by assumption
        rw [HM.out] at hpos
        rw [partM_skip (key_kS s) hls hfs (by omega)] at hout1
        go_roundw
        case rel => exact ⟨_, cnt1, hrg1, by omega, hout1.mono (by omega), hnx1⟩
        case measure => rw [hrg1.left_eq, hrg.left_eq]; exact hlt
end Go.Proofs.Qxb6003611a
