/-
  Seat b6003643a: cloneBytes, concatBytes, equalBytes, the bound on lengths, WALKED.
-/
import Derived.Test.Qxb6003643aRows
import Derived.WalkKit
import Derived.Lib.SliceRun
import Derived.StillTailTactics
namespace Go.Proofs.Qxb6003643a
open Go.RowKit

/-- a byte as a value -/
def bv (z : Int) : Value := .int .u8 z
/-- THE SLICE (a, len) READS THE BYTES zs; what it reads lies below block B. -/
def Rd (w : World) (B : Nat) (a : Option Addr) (len : Nat) (zs : List Int) : Prop :=
  zs.length = len ∧ (∀ z ∈ zs, 0 ≤ z ∧ z ≤ 255) ∧ (len = 0 ∨ ∃ b off, a = some ⟨b, off, none⟩ ∧ b < B ∧ ∀ i, i < len → w.cell? ⟨b, off + i, none⟩ = some (.int .u8 (zs.getD i 0)))

theorem Rd.below {w w' : World} {B : Nat} {a : Option Addr} {len : Nat} {zs : List Int} (h : Rd w B a len zs) (hb : Below B w w') : Rd w' B a len zs := by
  obtain ⟨h1, h2, h3⟩ := h
  refine ⟨h1, h2, ?_⟩
  rcases h3 with h | ⟨b, off, rfl, hlt, h⟩
  · exact .inl h
  · exact .inr ⟨b, off, rfl, hlt, fun i hi => (hb.cell (by exact hlt)).trans (h i hi)⟩
theorem Rd.mono {w : World} {B B' : Nat} {a : Option Addr} {len : Nat} {zs : List Int} (h : Rd w B a len zs) (hb : B ≤ B') : Rd w B' a len zs := by
  obtain ⟨h1, h2, h3⟩ := h
  refine ⟨h1, h2, ?_⟩
  rcases h3 with h | ⟨b, off, rfl, hlt, h⟩
  · exact .inl h
  · exact .inr ⟨b, off, rfl, Nat.lt_of_lt_of_le hlt hb, h⟩
theorem Rd.cells {w : World} {B : Nat} {a : Option Addr} {len : Nat} {zs : List Int} (h : Rd w B a len zs) (k : Nat) (hk : k < len) : ∃ b off, a = some ⟨b, off, none⟩ ∧ b < B ∧ w.cell? ⟨b, off + k, none⟩ = some (.int .u8 (zs.getD k 0)) := by
  obtain ⟨_, _, h3⟩ := h
  rcases h3 with h | ⟨b, off, rfl, hlt, h⟩
  · omega
  · exact ⟨b, off, rfl, hlt, h k hk⟩
theorem Rd.bound {w : World} {B : Nat} {a : Option Addr} {len : Nat} {zs : List Int} (h : Rd w B a len zs) (k : Nat) : 0 ≤ zs.getD k 0 ∧ zs.getD k 0 ≤ 255 := by
  by_cases hk : k < zs.length
  · have := h.2.1 zs[k] (List.getElem_mem hk)
    simpa [List.getD, hk] using this
  · simp [List.getD, List.getElem?_eq_none (show zs.length ≤ k by omega)]

/-- what a slice of the call's own owns, it reads -/
theorem rd_of_own {w : World} {base n cap g : Nat} {zs : List Int} (h : w.ownsRow base 5 1 (.slice (some ⟨g, 0, none⟩) n cap) n (zs.map bv)) (hz : ∀ z ∈ zs, 0 ≤ z ∧ z ≤ 255) : Rd w w.heap.size (some ⟨g, 0, none⟩) n zs := by
  have hl : zs.length = n := by have := h.1; simpa using this
  refine ⟨hl, hz, .inr ⟨g, 0, rfl, (h.lt g rfl).2, fun i hi => ?_⟩⟩
  have := h.cellAt i (by simpa using hi)
  simp only [Nat.zero_add]
  rw [this]
  simp [List.getD, bv, hl, hi]

theorem info5 : (Try.prog.info? 5).map (fun i => (i.zero, i.size, i.bytes)) = some (some (.int .u8 0), 1, 1) := by kernel_rfl

/-- the first k cells are zs's, the rest nought: while a copy is under way -/
def mix (zs : List Int) (n k : Nat) : List Value := (zs.take k).map bv ++ List.replicate (n - k) (.int .u8 0)
theorem mix_zero (zs : List Int) (n : Nat) : mix zs n 0 = List.replicate n (.int .u8 0) := by simp [mix]
theorem mix_full (zs : List Int) (n : Nat) (h : zs.length = n) : mix zs n n = zs.map bv := by simp [mix, ← h]
theorem mix_step (zs : List Int) (n k : Nat) (hk : k < n) (hl : zs.length = n) : (mix zs n k).set k (.int .u8 (zs.getD k 0)) = mix zs n (k + 1) := by
  have hkl : k < zs.length := by omega
  have e1 : ((zs.take k).map bv).length = k := by simp; omega
  unfold mix
  rw [List.set_append_right _ _ (by omega), e1, Nat.sub_self, show n - k = (n - (k + 1)) + 1 by omega, List.replicate_succ, List.set_cons_zero, List.take_succ_eq_append_getElem hkl, List.map_append, List.append_assoc]
  simp [List.getD, hkl, bv]
theorem mix_length (zs : List Int) (n k : Nat) (hk : k ≤ n) (hl : zs.length = n) : (mix zs n k).length = n := by simp [mix]; omega

theorem run_nil (w : World) (a : Option Addr) (n c : Nat) : (binOp .eql 22 (.slice a n c) (.slice none 0 0)).run Try.prog w = .ok (.bool a.isNone) w := Lib.run_eql_slice_nil w 22 5 a n c 0 0 Try.underlying22

theorem clone_nil (w : World) : Calls Try.prog 8 #[.slice none 0 0] w fun e w' => e = .returned (.slice none 0 0) ∧ w' = w := by
  have hnil := run_nil w
  go_enter Try.func8, Try.ntmps8
  go_wp2
  go_ret
  exact ⟨rfl, rfl⟩

set_option maxRecDepth 100000 in
theorem clone_some (ad : Addr) (len cap : Nat) (zs : List Int) (B : Nat) (w : World) (h : Rd w B (some ad) len zs) (hB : B ≤ w.heap.size) (hlen : len ≤ 16777216) :
    Calls Try.prog 8 #[.slice (some ad) len cap] w fun e w' => e = .returned (.slice (some ⟨w.heap.size, 0, none⟩) len len) ∧ w'.ownsRow w.heap.size 5 1 (.slice (some ⟨w.heap.size, 0, none⟩) len len) len (zs.map bv) ∧ Below w.heap.size w w' := by
  have hnil := run_nil w
  obtain ⟨i0, hi, hz0, hz1, hz2⟩ := info_parts info5
  obtain ⟨w0, hmk, hown0, hg0⟩ := run_make_full (P := Try.prog) w w.heap.size 22 5 i0 (.int .u8 0) 1 Try.underlying22 hi hz0 hz1 .i64 .i64 len (by rw [hz2]; omega) (by unfold maxLen; omega) (Nat.le_refl _)
  have e0 : (madeCells (Value.cells (.int .u8 0)) (len * 1)).toList = mix zs len 0 := by rw [mix_zero, Nat.mul_one]; exact toList_madeCells_one _ _
  rw [e0] at hown0
  clear e0 hi hz0 hz1 hz2
  go_enter Try.func8, Try.ntmps8
  go_wp2
  go_loopw [4] (fun i wr => ∃ k : Nat, k ≤ len ∧ i = .int .i64 k ∧ wr.ownsRow w.heap.size 5 1 (.slice (some ⟨w.heap.size, 0, none⟩) len len) len (mix zs len k) ∧ Below w.heap.size w wr) (fun i _ => len - (intOf i).toNat)
  case atStart => exact ⟨0, Nat.zero_le _, rfl, hown0, (Below.refl _ _).grown hg0 (Nat.le_refl _) (fun j hj => by cases hj)⟩
  case round =>
    obtain ⟨k, hk, rfl, hown, hnx⟩ := hrel
    by_cases hlk : k < len
    · obtain ⟨b, off, ea, hb, hc⟩ := h.cells k hlk
      cases ea
      have c1 : wr.cell? ⟨b, off + k, none⟩ = some (.int .u8 (zs.getD k 0)) := (hnx.cell (by exact Nat.lt_of_lt_of_le hb hB)).trans hc
      have f1 := hown.frozenAt k
      obtain ⟨v1, c2⟩ : ∃ v1, wr.cell? ⟨w.heap.size, k, none⟩ = some v1 := by
        rw [hown.cellAt k (by simpa using hlk)]
        exact ⟨_, List.getElem?_eq_getElem (by rw [mix_length zs len k hk h.1]; exact hlk)⟩
      obtain ⟨hst, hgr⟩ := hown.stored k (.int .u8 (zs.getD k 0))
      rw [mix_step zs len k hlk h.1] at hst
      clear hc
      go_wp2
      go_roundw
      case rel => exact ⟨k + 1, by omega, by go_num, hst, hnx.grown hgr hnx.size (fun j hj => by cases hj; exact Nat.le_refl _)⟩
      case measure => simp [intOf]; omega
    · have : k = len := by omega
      subst this
      rw [mix_full zs k h.1] at hown
      go_wp2
      go_ret
      exact ⟨rfl, hown, hnx⟩

/-- equalBytes of two slices that read the same bytes. -/
theorem equal_same (a0 a1 : Option Addr) (len cap0 cap1 : Nat) (zs : List Int) (w : World) (h0 : Rd w w.heap.size a0 len zs) (h1 : Rd w w.heap.size a1 len zs) (hlen : len ≤ 16777216) :
    Calls Try.prog 10 #[.slice a0 len cap0, .slice a1 len cap1] w fun e w' => e = .returned (.bool true) ∧ Below w.heap.size w w' := by
  go_enter Try.func10, Try.ntmps10
  go_wp2
  go_loopw [5] (fun i wr => ∃ k : Nat, k ≤ len ∧ i = .int .i64 k ∧ Below w.heap.size w wr) (fun i _ => len - (intOf i).toNat)
  case atStart => exact ⟨0, Nat.zero_le _, rfl, Below.refl _ _⟩
  case round =>
    obtain ⟨k, hk, rfl, hnx⟩ := hrel
    by_cases hlk : k < len
    · obtain ⟨b0, off0, ea0, hb0, hc0⟩ := h0.cells k hlk
      obtain ⟨b1, off1, ea1, hb1, hc1⟩ := h1.cells k hlk
      subst ea0
      subst ea1
      have c0 : wr.cell? ⟨b0, off0 + k, none⟩ = some (.int .u8 (zs.getD k 0)) := (hnx.cell (by exact hb0)).trans hc0
      have c1 : wr.cell? ⟨b1, off1 + k, none⟩ = some (.int .u8 (zs.getD k 0)) := (hnx.cell (by exact hb1)).trans hc1
      clear hc0 hc1
      go_wp2
      go_still (by kernel_rfl)
      go_wp2
      go_roundw
      case rel => exact ⟨k + 1, by omega, by go_num, hnx.drew⟩
      case measure => simp [intOf]; omega
    · go_wp2
      go_ret
      exact ⟨rfl, hnx⟩

set_option maxRecDepth 100000 in
set_option maxHeartbeats 1000000 in
theorem concat_any (a0 a1 : Option Addr) (len0 len1 cap0 cap1 : Nat) (z0 z1 : List Int) (w : World) (h0 : Rd w w.heap.size a0 len0 z0) (h1 : Rd w w.heap.size a1 len1 z1) (l0 : len0 ≤ 16777216) (l1 : len1 ≤ 16777216) :
    Calls Try.prog 13 #[.slice a0 len0 cap0, .slice a1 len1 cap1] w fun e w' => e = .returned (.slice (some ⟨w.heap.size, 0, none⟩) (len0 + len1) (len0 + len1)) ∧
      w'.ownsRow w.heap.size 5 1 (.slice (some ⟨w.heap.size, 0, none⟩) (len0 + len1) (len0 + len1)) (len0 + len1) ((z0 ++ z1).map bv) ∧ Below w.heap.size w w' := by
  have hl0 := h0.1
  have hl1 := h1.1
  have HL : Hid ((z0 ++ z1).length = len0 + len1) := by unfold Hid; simp [hl0, hl1]
  obtain ⟨i0, hi, hz0, hz1, hz2⟩ := info_parts info5
  obtain ⟨w0, hmk, hown0, hg0⟩ := run_make_full (P := Try.prog) w w.heap.size 22 5 i0 (.int .u8 0) 1 Try.underlying22 hi hz0 hz1 .i64 .i64 (len0 + len1) (by rw [hz2]; omega) (by unfold maxLen; omega) (Nat.le_refl _)
  have e0 : (madeCells (Value.cells (.int .u8 0)) ((len0 + len1) * 1)).toList = mix (z0 ++ z1) (len0 + len1) 0 := by rw [mix_zero, Nat.mul_one]; exact toList_madeCells_one _ _
  rw [e0] at hown0
  rw [show ((len0 + len1 : Nat) : Int) = (len0 : Int) + (len1 : Int) by omega] at hmk
  have G0 : Hid (z0.length = len0) := hl0
  have G1 : Hid (z1.length = len1) := hl1
  clear e0 hi hz0 hz1 hz2 hl0 hl1
  go_enter Try.func13, Try.ntmps13
  go_wp2
  go_loopw [6] (fun i wr => ∃ k : Nat, k ≤ len0 ∧ i = .int .i64 k ∧ wr.ownsRow w.heap.size 5 1 (.slice (some ⟨w.heap.size, 0, none⟩) (len0 + len1) (len0 + len1)) (len0 + len1) (mix (z0 ++ z1) (len0 + len1) k) ∧ Below w.heap.size w wr) (fun i _ => len0 - (intOf i).toNat)
  case atStart => exact ⟨0, Nat.zero_le _, rfl, hown0, (Below.refl _ _).grown hg0 (Nat.le_refl _) (fun j hj => by cases hj)⟩
  case round =>
    obtain ⟨k, hk, rfl, hown, hnx⟩ := hrel
    by_cases hlk : k < len0
    · obtain ⟨b, off, ea, hb, hc⟩ := h0.cells k hlk
      subst ea
      have c1 : wr.cell? ⟨b, off + k, none⟩ = some (.int .u8 (z0.getD k 0)) := (hnx.cell (by exact hb)).trans hc
      have f1 := hown.frozenAt k
      obtain ⟨v1, c2⟩ : ∃ v1, wr.cell? ⟨w.heap.size, k, none⟩ = some v1 := by
        rw [hown.cellAt k (by omega)]
        exact ⟨_, List.getElem?_eq_getElem (by rw [mix_length _ _ k (by omega) HL.out]; omega)⟩
      have hst := (hown.stored k (.int .u8 ((z0 ++ z1).getD k 0))).1
      rw [mix_step _ _ k (by omega) HL.out] at hst
      have eg : (z0 ++ z1).getD k 0 = z0.getD k 0 := by have := G0.out; simp [List.getD, List.getElem?_append_left (show k < z0.length by omega)]
      rw [eg] at hst
      have hgr := (hown.stored k (.int .u8 (z0.getD k 0))).2
      clear hc eg
      go_wp2
      go_roundw
      case rel => exact ⟨k + 1, by omega, by go_num, hst, hnx.grown hgr hnx.size (fun j hj => by cases hj; exact Nat.le_refl _)⟩
      case measure => simp [intOf]; omega
    · have : k = len0 := by omega
      subst this
      go_wp2
      go_loopw [7] (fun i wr => ∃ j : Nat, j ≤ len1 ∧ i = .int .i64 j ∧ wr.ownsRow w.heap.size 5 1 (.slice (some ⟨w.heap.size, 0, none⟩) (k + len1) (k + len1)) (k + len1) (mix (z0 ++ z1) (k + len1) (k + j)) ∧ Below w.heap.size w wr) (fun i _ => len1 - (intOf i).toNat)
      case atStart => exact ⟨0, Nat.zero_le _, rfl, hown, hnx⟩
      case round =>
        obtain ⟨j, hj, rfl, hown', hnx'⟩ := hrel
        by_cases hlj : j < len1
        · obtain ⟨b, off, ea, hb, hc⟩ := h1.cells j hlj
          subst ea
          have c1 : wr.cell? ⟨b, off + j, none⟩ = some (.int .u8 (z1.getD j 0)) := (hnx'.cell (by exact hb)).trans hc
          have f1 := hown'.frozenAt (k + j)
          obtain ⟨v1, c2⟩ : ∃ v1, wr.cell? ⟨w.heap.size, k + j, none⟩ = some v1 := by
            rw [hown'.cellAt (k + j) (by omega)]
            exact ⟨_, List.getElem?_eq_getElem (by rw [mix_length _ _ (k + j) (by omega) HL.out]; omega)⟩
          have hst := (hown'.stored (k + j) (.int .u8 ((z0 ++ z1).getD (k + j) 0))).1
          rw [mix_step _ _ (k + j) (by omega) HL.out] at hst
          have eg : (z0 ++ z1).getD (k + j) 0 = z1.getD j 0 := by have := G0.out; simp [List.getD, List.getElem?_append_right (show z0.length ≤ k + j by omega), this]
          rw [eg] at hst
          have hgr := (hown'.stored (k + j) (.int .u8 (z1.getD j 0))).2
          clear hc eg
          go_wp2
          go_roundw
          case rel => exact ⟨j + 1, by omega, by go_num, hst, hnx'.grown hgr hnx'.size (fun j hj => by cases hj; exact Nat.le_refl _)⟩
          case measure => simp [intOf]; omega
        · have : j = len1 := by omega
          subst this
          rw [mix_full _ _ HL.out] at hown'
          go_wp2
          go_ret
          exact ⟨rfl, hown', hnx'⟩
end Go.Proofs.Qxb6003643a
