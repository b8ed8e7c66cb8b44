/-
  Seat b6600605a: FnDecideFailureIsFinalAlongARun, WALKED.
-/
import Derived.Test.Qxb6600605aWalk
namespace Go.Proofs.Qxb6600605a
open Go.RowKit

theorem decide_val (tol total c f v : Int) (w : World) (h0 : 0 ≤ tol) (h1 : tol ≤ 1000000) (t0 : 0 ≤ total) (t1 : total ≤ 1048576) (c0 : 0 ≤ c) (c1 : c ≤ 1048576) (f0 : 0 ≤ f) (f1 : f ≤ 1048576) (hv : dec tol total c f = v) :
    Calls Try.prog 5 #[.int .i64 tol, .int .i64 total, .int .i64 c, .int .i64 f] w fun e w' => e = .returned (.int .u8 v) ∧ Below w.heap.size w w' := by
  subst hv
  exact decide_any tol total c f w h0 h1 t0 t1 c0 c1 f0 f1

/-- a slice of len bools -/
def Rb (w : World) (a : Option Addr) (len : Nat) (bs : List Bool) : Prop :=
  bs.length = len ∧ (len = 0 ∨ ∃ b off, a = some ⟨b, off, none⟩ ∧ b < w.heap.size ∧ ∀ i, i < len → w.cell? ⟨b, off + i, none⟩ = some (.bool (bs.getD i false)))
theorem Rb.cells {w : World} {a : Option Addr} {len : Nat} {bs : List Bool} (h : Rb w a len bs) (k : Nat) (hk : k < len) : ∃ b off, a = some ⟨b, off, none⟩ ∧ b < w.heap.size ∧ w.cell? ⟨b, off + k, none⟩ = some (.bool (bs.getD k false)) := by
  rcases h.2 with h | ⟨b, off, rfl, hlt, h⟩
  · omega
  · exact ⟨b, off, rfl, hlt, h k hk⟩

def mix (bs : List Bool) (n k : Nat) : List Value := (bs.take k).map Value.bool ++ List.replicate (n - k) (.bool false)
theorem mix_zero (bs : List Bool) (n : Nat) : mix bs n 0 = List.replicate n (.bool false) := by simp [mix]
theorem mix_full (bs : List Bool) (n : Nat) (h : bs.length = n) : mix bs n n = bs.map Value.bool := by simp [mix, ← h]
theorem mix_step (bs : List Bool) (n k : Nat) (hk : k < n) (hl : bs.length = n) : (mix bs n k).set k (.bool (bs.getD k false)) = mix bs n (k + 1) := by
  have hkl : k < bs.length := by omega
  have e1 : ((bs.take k).map Value.bool).length = k := by simp; omega
  unfold mix
  rw [List.set_append_right _ _ (by omega), e1, Nat.sub_self, show n - k = (n - (k + 1)) + 1 by omega, List.replicate_succ, List.set_cons_zero, List.take_succ_eq_append_getElem hkl, List.map_append, List.append_assoc]
  simp [List.getD, hkl]
theorem mix_length (bs : List Bool) (n k : Nat) (hk : k ≤ n) (hl : bs.length = n) : (mix bs n k).length = n := by simp [mix]; omega

theorem info4 : (Try.prog.info? 4).map (fun i => (i.zero, i.size, i.bytes)) = some (some (.bool false), 1, 1) := by kernel_rfl
theorem run_nil (w : World) (a : Option Addr) (n c : Nat) : (binOp .neq 24 (.slice a n c) (.slice none 0 0)).run Try.prog w = .ok (.bool a.isSome) w := by
  cases a <;> kernel_rfl

set_option maxRecDepth 100000 in
set_option maxHeartbeats 2000000 in
theorem walk_nil (tol : Int) (w : World) : Calls Try.prog 4 #[.int .i64 tol, .slice none 0 0] w fun e w' => e = .returned (.bool true) ∧ Below w.heap.size w w' := by
  have hnil := run_nil w
  go_enter Try.func4, Try.ntmps4
  go_wp2_with fail
  refine (bytes6 tol none 0 0 w (by unfold maxLen; omega)).mono ?_
  rintro e w' ⟨⟨r, rfl⟩, hw⟩
  obtain rfl := hw.symm
  cases r with
  | false =>
    go_wp2
    go_ret
    exact ⟨rfl, Below.refl _ _⟩
  | true =>
    by_cases g0 : tol < 0
    · go_wp2
      go_ret
      exact ⟨rfl, Below.refl _ _⟩
    · by_cases g1 : 1000000 < tol
      · go_wp2
        go_ret
        exact ⟨rfl, Below.refl _ _⟩
      · go_wp2
        refine wp_loop_rounds 2 ?_
        rw [rounds_succ]
        go_wp2_with fail
        refine (decide_val tol 0 0 0 1 w (by omega) (by omega) (by omega) (by omega) (by omega) (by omega) (by omega) (by omega) (by simp [dec])).mono ?_
        rintro e w1 ⟨rfl, b1⟩
        go_wp2
        rw [rounds_succ]
        go_wp2
        go_ret
        exact ⟨rfl, b1⟩

set_option maxRecDepth 100000 in
set_option maxHeartbeats 4000000 in
theorem walk_some (tol : Int) (ad : Addr) (len cap : Nat) (bs : List Bool) (w : World) (h : Rb w (some ad) len bs) (m : len ≤ maxLen) :
    Calls Try.prog 4 #[.int .i64 tol, .slice (some ad) len cap] w fun e w' => e = .returned (.bool true) ∧ Below w.heap.size w w' := by
  have hnil := run_nil w
  go_enter Try.func4, Try.ntmps4
  go_wp2_with fail
  refine (bytes6 tol (some ad) len cap w m).mono ?_
  rintro e w' ⟨⟨r, rfl⟩, hw⟩
  obtain rfl := hw.symm
  unfold maxLen at m
  cases r with
  | false =>
    go_wp2
    go_ret
    exact ⟨rfl, Below.refl _ _⟩
  | true =>
    by_cases l0 : 1048576 < len
    · go_wp2
      go_ret
      exact ⟨rfl, Below.refl _ _⟩
    · by_cases g0 : tol < 0
      · go_wp2
        go_ret
        exact ⟨rfl, Below.refl _ _⟩
      · by_cases g1 : 1000000 < tol
        · go_wp2
          go_ret
          exact ⟨rfl, Below.refl _ _⟩
        · have d0 : decide (1048576 < (len : Int)) = false := by simp; omega
          have d1 : decide (tol < 0) = false := by simp; omega
          have d2 : decide (1000000 < tol) = false := by simp; omega
          have t0 : 0 ≤ tol := by omega
          have t1 : tol ≤ 1000000 := by omega
          have l1 : len ≤ 1048576 := by omega
          clear l0 g0 g1 m
          obtain ⟨i0, hi, hz0, hz1, hz2⟩ := info_parts info4
          obtain ⟨w0, hmk, hown0, hg0⟩ := run_make_full (P := Try.prog) w w.heap.size 24 4 i0 (.bool false) 1 Try.underlying24 hi hz0 hz1 .i64 .i64 len (by rw [hz2]; omega) (by unfold maxLen; omega) (Nat.le_refl _)
          have e0 : (madeCells (Value.cells (.bool false)) (len * 1)).toList = mix bs len 0 := by rw [mix_zero, Nat.mul_one]; exact toList_madeCells_one _ _
          rw [e0] at hown0
          clear e0 hi hz0 hz1 hz2
          go_wp2
          go_loopw [6] (fun i wr => ∃ k : Nat, k ≤ len ∧ i = .int .i64 k ∧ wr.ownsRow w.heap.size 4 1 (.slice (some ⟨w.heap.size, 0, none⟩) len len) len (mix bs len k) ∧ Below w.heap.size w wr) (fun i _ => len - (intOf i).toNat)
          case atStart => exact ⟨0, Nat.zero_le _, rfl, hown0, (Below.refl _ _).grown hg0 (Nat.le_refl _) (fun j hj => by cases hj)⟩
          case round =>
            obtain ⟨k, hk, rfl, hown, hnx⟩ := hrel
            by_cases hlk : k < len
            · obtain ⟨b, off, ea, hb, hc⟩ := h.cells k hlk
              cases ea
              have c1 : wr.cell? ⟨b, off + k, none⟩ = some (.bool (bs.getD k false)) := (hnx.cell (by exact hb)).trans hc
              have f1 := hown.frozenAt k
              obtain ⟨v1, c2⟩ : ∃ v1, wr.cell? ⟨w.heap.size, k, none⟩ = some v1 := by
                rw [hown.cellAt k (by simpa using hlk)]
                exact ⟨_, List.getElem?_eq_getElem (by rw [mix_length bs len k hk h.1]; exact hlk)⟩
              obtain ⟨hst, hgr⟩ := hown.stored k (.bool (bs.getD k false))
              rw [mix_step bs len k hlk h.1] at hst
              clear hc
              go_wp2
              go_roundw
              case rel => exact ⟨k + 1, by omega, by go_num, hst, hnx.grown hgr hnx.size (fun j hj => by cases hj; exact Nat.le_refl _)⟩
              case measure => simp [intOf]; omega
            · have : k = len := by omega
              subst this
              rw [mix_full bs k h.1] at hown
              have hcells : ∀ i, i < k → wr.cell? ⟨w.heap.size, i, none⟩ = some (.bool (bs.getD i false)) := fun i hi => by
                rw [hown.cellAt i (by simpa using hi)]
                have := h.1
                simp [List.getD, show i < bs.length by omega]
              have hblk : w.heap.size < wr.heap.size := (hown.lt _ rfl).2
              have HH : Hid (Rb w (some ad) k bs) := h
              clear h hown hown0 hg0 hmk hnil
              go_wp2
              go_loopw [8, 9, 10, 11] (fun cv fv sv iv ww => ∃ (q c f : Nat) (sf : Bool), q ≤ k + 1 ∧ iv = .int .i64 q ∧ cv = .int .i64 c ∧ fv = .int .i64 f ∧ sv = .bool sf ∧ c + f ≤ k ∧ (q ≤ k → c + f = q) ∧ (sf = true → tol * k < (f : Int) * 1000000) ∧ Below wr.heap.size wr ww) (fun _ _ _ iv _ => k + 1 - (intOf iv).toNat)
              case atStart => exact ⟨0, 0, 0, false, by omega, rfl, rfl, rfl, rfl, by omega, fun _ => rfl, (fun h => by cases h), Below.refl _ _⟩
              case round =>
                obtain ⟨q, c, f, sf, hq, rfl, rfl, rfl, rfl, hcf, hq2, hsf, hnx2⟩ := hrel
                have hp := (mul_bd (tol := tol) (total := (k : Int)) t0 t1 (by omega) (by omega)).1
                by_cases hqk : q ≤ k
                · have hsum := hq2 hqk
                  clear hq2
                  by_cases hf : tol * k < (f : Int) * 1000000
                  · have hd : dec tol k c f = 2 := by unfold dec; rw [if_pos hf]
                    have hfz : ((f : Int) == 0) = false := by simp; omega
                    have HF : Hid (tol * k < (f : Int) * 1000000) := hf
                    have HS : Hid (c + f = q) := hsum
                    clear hsf hsum hf
                    go_wp2_with fail
                    refine (decide_val tol k c f 2 _ t0 t1 (by omega) (by omega) (by omega) (by omega) (by omega) (by omega) hd).mono ?_
                    rintro e w2 ⟨rfl, b2⟩
                    clear hd
                    have hnx3 := hnx2.trans (b2.mono hnx2.size)
                    cases sf with
                    | true =>
                      by_cases hlq : q < k
                      · have lt1 := Nat.lt_of_lt_of_le hblk hnx2.size
                        have c1 := (b2.cell (p := ⟨w.heap.size, q, none⟩) (by exact lt1)).trans ((hnx2.cell (p := ⟨w.heap.size, q, none⟩) (by exact hblk)).trans (hcells q hlq))
                        cases hbq : bs.getD q false with
                        | true =>
                          rw [hbq] at c1
                          clear hbq
                          go_wp2
                          go_roundw
                          case rel => exact ⟨q + 1, c + 1, f, true, by omega, by go_num, by go_num, by go_num, rfl, by have := HS.out; omega, (fun _ => by have := HS.out; omega), (fun _ => HF.out), hnx3⟩
                          case measure => simp [intOf]; omega
                        | false =>
                          rw [hbq] at c1
                          clear hbq
                          go_wp2
                          go_roundw
                          case rel => exact ⟨q + 1, c, f + 1, true, by omega, by go_num, by go_num, by go_num, rfl, by have := HS.out; omega, (fun _ => by have := HS.out; omega), (fun _ => by have := HF.out; omega), hnx3⟩
                          case measure => simp [intOf]; omega
                      · have hqe : q = k := by omega
                        subst hqe
                        go_wp2
                        go_roundw
                        case rel => exact ⟨q + 1, c, f, true, by omega, by go_num, by go_num, by go_num, rfl, by have := HS.out; omega, (fun h => by omega), (fun _ => HF.out), hnx3⟩
                        case measure => simp [intOf]
                    | false =>
                      by_cases hlq : q < k
                      · have lt1 := Nat.lt_of_lt_of_le hblk hnx2.size
                        have c1 := (b2.cell (p := ⟨w.heap.size, q, none⟩) (by exact lt1)).trans ((hnx2.cell (p := ⟨w.heap.size, q, none⟩) (by exact hblk)).trans (hcells q hlq))
                        cases hbq : bs.getD q false with
                        | true =>
                          rw [hbq] at c1
                          clear hbq
                          go_wp2
                          go_roundw
                          case rel => exact ⟨q + 1, c + 1, f, true, by omega, by go_num, by go_num, by go_num, rfl, by have := HS.out; omega, (fun _ => by have := HS.out; omega), (fun _ => HF.out), hnx3⟩
                          case measure => simp [intOf]; omega
                        | false =>
                          rw [hbq] at c1
                          clear hbq
                          go_wp2
                          go_roundw
                          case rel => exact ⟨q + 1, c, f + 1, true, by omega, by go_num, by go_num, by go_num, rfl, by have := HS.out; omega, (fun _ => by have := HS.out; omega), (fun _ => by have := HF.out; omega), hnx3⟩
                          case measure => simp [intOf]; omega
                      · have hqe : q = k := by omega
                        subst hqe
                        go_wp2
                        go_roundw
                        case rel => exact ⟨q + 1, c, f, true, by omega, by go_num, by go_num, by go_num, rfl, by have := HS.out; omega, (fun h => by omega), (fun _ => HF.out), hnx3⟩
                        case measure => simp [intOf]
                  · have hsff : sf = false := by
                      cases sf with
                      | false => rfl
                      | true => exact absurd (hsf rfl) hf
                    subst hsff
                    have HS : Hid (c + f = q) := hsum
                    have HF : Hid (¬ tol * k < (f : Int) * 1000000) := hf
                    by_cases hlq : q < k
                    · have hd : dec tol k c f = 0 := by unfold dec; rw [if_neg hf, if_neg (by omega)]
                      clear hsf hsum hf
                      go_wp2_with fail
                      refine (decide_val tol k c f 0 _ t0 t1 (by omega) (by omega) (by omega) (by omega) (by omega) (by omega) hd).mono ?_
                      rintro e w2 ⟨rfl, b2⟩
                      clear hd
                      have hnx3 := hnx2.trans (b2.mono hnx2.size)
                      have lt1 := Nat.lt_of_lt_of_le hblk hnx2.size
                      have c1 := (b2.cell (p := ⟨w.heap.size, q, none⟩) (by exact lt1)).trans ((hnx2.cell (p := ⟨w.heap.size, q, none⟩) (by exact hblk)).trans (hcells q hlq))
                      cases hbq : bs.getD q false with
                      | true =>
                        rw [hbq] at c1
                        clear hbq
                        go_wp2
                        go_roundw
                        case rel => exact ⟨q + 1, c + 1, f, false, by omega, by go_num, by go_num, by go_num, rfl, by have := HS.out; omega, (fun _ => by have := HS.out; omega), (fun h => by cases h), hnx3⟩
                        case measure => simp [intOf]; omega
                      | false =>
                        rw [hbq] at c1
                        clear hbq
                        go_wp2
                        go_roundw
                        case rel => exact ⟨q + 1, c, f + 1, false, by omega, by go_num, by go_num, by go_num, rfl, by have := HS.out; omega, (fun _ => by have := HS.out; omega), (fun h => by cases h), hnx3⟩
                        case measure => simp [intOf]; omega
                    · have hqe : q = k := by omega
                      subst hqe
                      have hd : dec tol q c f = 1 := by unfold dec; rw [if_neg hf, if_pos (by omega)]
                      clear hsf hsum hf
                      go_wp2_with fail
                      refine (decide_val tol q c f 1 _ t0 t1 (by omega) (by omega) (by omega) (by omega) (by omega) (by omega) hd).mono ?_
                      rintro e w2 ⟨rfl, b2⟩
                      clear hd
                      have hnx3 := hnx2.trans (b2.mono hnx2.size)
                      go_wp2
                      go_roundw
                      case rel => exact ⟨q + 1, c, f, false, by omega, by go_num, by go_num, by go_num, rfl, by have := HS.out; omega, (fun h => by omega), (fun h => by cases h), hnx3⟩
                      case measure => simp [intOf]
                · go_wp2
                  go_ret
                  exact ⟨rfl, hnx.trans (hnx2.mono hnx.size)⟩
end Go.Proofs.Qxb6600605a
