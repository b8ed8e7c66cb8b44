/-
  Seat b6003643a: appendCanonicalString, WALKED.
-/
import Derived.Test.Qxb6003643aEsc
import Derived.Deep.AppendLies
import Derived.Deep.RegionHeld3
import Derived.Deep.DrawnRows
import Derived.WalkSpells
import Derived.WalkSmall
namespace Go.Proofs.Qxb6003643a
open Go.RowKit

theorem row_step {w wr w1 : World} {base g M cap : Nat} {xs : List Value} {o : Obj} (hown : wr.ownsRow base 5 1 (.slice (some ⟨g, 0, none⟩) M cap) M xs) (hnx : Below base w wr) (hb : base ≤ wr.heap.size) (hg : (wr.alloc o).grownBy w1 (some g)) : Below base w w1 ∧ base ≤ w1.heap.size := by
  have h1 := (hown.lt g rfl).1
  have hs := hg.size
  simp at hs
  exact ⟨(hnx.alloc hb _).grown hg (by simp; omega) (fun j hj => by cases hj; exact h1), by omega⟩
theorem row_step_drew {w wr w1 : World} {base g M cap : Nat} {xs : List Value} {o : Obj} (hown : wr.ownsRow base 5 1 (.slice (some ⟨g, 0, none⟩) M cap) M xs) (hnx : Below base w wr) (hb : base ≤ wr.heap.size) (hg : (wr.alloc o).drew.grownBy w1 (some g)) : Below base w w1 ∧ base ≤ w1.heap.size :=
  row_step hown hnx hb ⟨hg.os, hg.tape, hg.output, hg.size, hg.block⟩

/-- the hex digits, read -/
theorem idx_nat (i : Nat) (hi : i < 16) (w : World) : (Instr.index 9 (.string ⟨#[48, 49, 50, 51, 52, 53, 54, 55, 56, 57, 97, 98, 99, 100, 101, 102]⟩) (.int .u8 (i : Int))).run Try.prog w = .ok (.int .u8 (hexd (i : Int))) w := by
  rcases (by omega : i = 0 ∨ i = 1 ∨ i = 2 ∨ i = 3 ∨ i = 4 ∨ i = 5 ∨ i = 6 ∨ i = 7 ∨ i = 8 ∨ i = 9 ∨ i = 10 ∨ i = 11 ∨ i = 12 ∨ i = 13 ∨ i = 14 ∨ i = 15) with rfl | rfl | rfl | rfl | rfl | rfl | rfl | rfl | rfl | rfl | rfl | rfl | rfl | rfl | rfl | rfl
  all_goals kernel_rfl
theorem idx_int (i : Int) (h0 : 0 ≤ i) (h1 : i < 16) (w : World) : (Instr.index 9 (.string ⟨#[48, 49, 50, 51, 52, 53, 54, 55, 56, 57, 97, 98, 99, 100, 101, 102]⟩) (.int .u8 i)).run Try.prog w = .ok (.int .u8 (hexd i)) w := by
  have := idx_nat i.toNat (by omega) w
  rwa [Int.toNat_of_nonneg h0] at this
theorem and15 (c : Int) (h0 : 0 ≤ c) (h1 : c < 32) : bits BinOp.and IntKind.u8 c 15 = c % 16 := by
  have h : ∀ n : Nat, n < 32 → bits BinOp.and IntKind.u8 (n : Int) 15 = (n : Int) % 16 := by decide
  have := h c.toNat (by omega)
  rwa [Int.toNat_of_nonneg h0] at this

set_option maxRecDepth 100000 in
set_option maxHeartbeats 2000000 in
theorem append_any (ao : Option Addr) (n co base : Nat) (O : List Int) (a : Option Addr) (len cap : Nat) (zs : List Int) (w : World) (hown : w.ownsRow base 5 1 (.slice ao n co) n (O.map bv)) (hbase : base ≤ w.heap.size) (hs : Rd w base a len zs) (hn : n ≤ 16777216) (hlen : len ≤ 16777216) :
    Calls Try.prog 18 #[.slice ao n co, .slice a len cap] w fun e w' => ∃ g M cap', e = .returned (.slice (some ⟨g, 0, none⟩) M cap') ∧ w'.ownsRow base 5 1 (.slice (some ⟨g, 0, none⟩) M cap') M ((canon O zs).map bv) ∧ Below base w w' := by
  obtain ⟨i0, hi, hz0, hz1, hz2⟩ := info_parts info5
  have HO : Hid (O.length = n) := by have := hown.1; unfold Hid; simpa using this
  have HZ : Hid (zs.length = len) := hs.1
  go_enter Try.func18, Try.ntmps18
  go_wp2_with (first
    | (at_builtin; refine wpList_append_lies _ rfl (.tmp 7) (.tmp 8) 22 rfl base 5 i0 (.int .u8 0) 1 1 Try.underlying22 hi hz0 hz1 hz2 rfl (by decide) (.slice ao n co) n (O.map bv) rfl (hown.alloc _) ⟨w.heap.size, 0, none⟩ 1 1 [.int .u8 34] rfl rfl (cell_one_new _ _ _) (by simp [Value.oneCell']) (by decide) (by unfold maxLen; omega) (by omega) (by simp; omega) (w.heap.size + 1) (by simp) ?_; intro g1 cap1 w1 hown1 hgrow1 hat1 hlt1)
    | go_in)
  have hd1 : Below base w w1 ∧ base ≤ w1.heap.size := by
    have hsz := hgrow1.size
    simp at hsz
    refine ⟨((Below.refl _ _).alloc hbase _).grown hgrow1 (by simp; omega) (fun j hj => ?_), by omega⟩
    exact (hown.lt j hj).1
  rw [show O.map bv ++ [Value.int .u8 34] = (upto O zs 0).map bv by rw [upto_zero, List.map_append]; rfl] at hown1
  clear hgrow1 hat1 hlt1
  go_loopw [0, 12] (fun v i wr => ∃ (k g M cp : Nat), k ≤ len ∧ i = .int .i64 k ∧ v = .slice (some ⟨g, 0, none⟩) M cp ∧ M ≤ n + 1 + 6 * k ∧ wr.ownsRow base 5 1 (.slice (some ⟨g, 0, none⟩) M cp) M ((upto O zs k).map bv) ∧ Below base w wr ∧ base ≤ wr.heap.size) (fun _ i _ => len - (intOf i).toNat)
  case atStart => exact ⟨0, g1, n + 1, cap1, Nat.zero_le _, rfl, rfl, by omega, hown1, hd1.1, hd1.2⟩
  case round =>
    obtain ⟨k, g, M, cp, hk, rfl, rfl, hM, hown', hnx, hbw⟩ := hrel
    clear hown1 hd1
    by_cases hlk : k < len
    · obtain ⟨b, off, ea, hb, hc0⟩ := hs.cells k hlk
      subst ea
      have c1 : wr.cell? ⟨b, off + k, none⟩ = some (.int .u8 (zs.getD k 0)) := (hnx.cell (by exact hb)).trans hc0
      have hbd := hs.bound k
      have hup := upto_step O zs k (by have := HZ.out; omega)
      obtain ⟨c, hc⟩ : ∃ c, zs.getD k 0 = c := ⟨_, rfl⟩
      rw [hc] at c1 hbd hup
      clear hc0 hc
      have HU : Hid (upto O zs (k + 1) = upto O zs k ++ esc c) := hup
      clear hup
      by_cases e34 : c = 34
      · subst e34
        have he : (esc 34).map bv = [.int .u8 92, .int .u8 34] := rfl
        have HE : Hid ((esc 34).map bv = [.int .u8 92, .int .u8 34]) := he
        clear he
        go_wp2_with (first | (at_builtin; refine wpList_append_lies _ rfl _ _ 22 rfl base 5 i0 (.int .u8 0) 1 1 Try.underlying22 hi hz0 hz1 hz2 rfl (by decide) (.slice (some ⟨g, 0, none⟩) M cp) M _ rfl (hown'.alloc _) ⟨wr.heap.size, 0, none⟩ 2 2 [.int .u8 92, .int .u8 34] rfl rfl (cell_two_new _ _ _ _) (by simp [Value.oneCell']) (by decide) (by unfold maxLen; omega) (by omega) (by simp; omega) (wr.heap.size + 1) (by simp) ?_; intro g2 cap2 w2 hown2 hgrow2 hat2 hlt2; go_frame) | go_in)
        obtain ⟨hnx2, hb2⟩ := row_step hown' hnx hbw hgrow2
        go_roundw
        case rel => exact ⟨k + 1, g2, M + 2, cap2, by omega, by go_num, rfl, by omega, by rw [HU.out, List.map_append, HE.out]; exact hown2, hnx2, hb2⟩
        case measure => simp [intOf]; omega
      have h34 : (c == 34) = false := by simpa using e34
      by_cases e92 : c = 92
      · subst e92
        have he : (esc 92).map bv = [.int .u8 92, .int .u8 92] := rfl
        have HE : Hid ((esc 92).map bv = [.int .u8 92, .int .u8 92]) := he
        clear he
        go_wp2_with (first | (at_builtin; refine wpList_append_lies _ rfl _ _ 22 rfl base 5 i0 (.int .u8 0) 1 1 Try.underlying22 hi hz0 hz1 hz2 rfl (by decide) (.slice (some ⟨g, 0, none⟩) M cp) M _ rfl (hown'.alloc _) ⟨wr.heap.size, 0, none⟩ 2 2 [.int .u8 92, .int .u8 92] rfl rfl (cell_two_new _ _ _ _) (by simp [Value.oneCell']) (by decide) (by unfold maxLen; omega) (by omega) (by simp; omega) (wr.heap.size + 1) (by simp) ?_; intro g2 cap2 w2 hown2 hgrow2 hat2 hlt2; go_frame) | go_in)
        obtain ⟨hnx2, hb2⟩ := row_step hown' hnx hbw hgrow2
        go_roundw
        case rel => exact ⟨k + 1, g2, M + 2, cap2, by omega, by go_num, rfl, by omega, by rw [HU.out, List.map_append, HE.out]; exact hown2, hnx2, hb2⟩
        case measure => simp [intOf]; omega
      have h92 : (c == 92) = false := by simpa using e92
      by_cases e8 : c = 8
      · subst e8
        have he : (esc 8).map bv = [.int .u8 92, .int .u8 98] := rfl
        have HE : Hid ((esc 8).map bv = [.int .u8 92, .int .u8 98]) := he
        clear he
        go_wp2_with (first | (at_builtin; refine wpList_append_lies _ rfl _ _ 22 rfl base 5 i0 (.int .u8 0) 1 1 Try.underlying22 hi hz0 hz1 hz2 rfl (by decide) (.slice (some ⟨g, 0, none⟩) M cp) M _ rfl (hown'.alloc _) ⟨wr.heap.size, 0, none⟩ 2 2 [.int .u8 92, .int .u8 98] rfl rfl (cell_two_new _ _ _ _) (by simp [Value.oneCell']) (by decide) (by unfold maxLen; omega) (by omega) (by simp; omega) (wr.heap.size + 1) (by simp) ?_; intro g2 cap2 w2 hown2 hgrow2 hat2 hlt2; go_frame) | go_in)
        obtain ⟨hnx2, hb2⟩ := row_step hown' hnx hbw hgrow2
        go_roundw
        case rel => exact ⟨k + 1, g2, M + 2, cap2, by omega, by go_num, rfl, by omega, by rw [HU.out, List.map_append, HE.out]; exact hown2, hnx2, hb2⟩
        case measure => simp [intOf]; omega
      have h8 : (c == 8) = false := by simpa using e8
      by_cases e12 : c = 12
      · subst e12
        have he : (esc 12).map bv = [.int .u8 92, .int .u8 102] := rfl
        have HE : Hid ((esc 12).map bv = [.int .u8 92, .int .u8 102]) := he
        clear he
        go_wp2_with (first | (at_builtin; refine wpList_append_lies _ rfl _ _ 22 rfl base 5 i0 (.int .u8 0) 1 1 Try.underlying22 hi hz0 hz1 hz2 rfl (by decide) (.slice (some ⟨g, 0, none⟩) M cp) M _ rfl (hown'.alloc _) ⟨wr.heap.size, 0, none⟩ 2 2 [.int .u8 92, .int .u8 102] rfl rfl (cell_two_new _ _ _ _) (by simp [Value.oneCell']) (by decide) (by unfold maxLen; omega) (by omega) (by simp; omega) (wr.heap.size + 1) (by simp) ?_; intro g2 cap2 w2 hown2 hgrow2 hat2 hlt2; go_frame) | go_in)
        obtain ⟨hnx2, hb2⟩ := row_step hown' hnx hbw hgrow2
        go_roundw
        case rel => exact ⟨k + 1, g2, M + 2, cap2, by omega, by go_num, rfl, by omega, by rw [HU.out, List.map_append, HE.out]; exact hown2, hnx2, hb2⟩
        case measure => simp [intOf]; omega
      have h12 : (c == 12) = false := by simpa using e12
      by_cases e10 : c = 10
      · subst e10
        have he : (esc 10).map bv = [.int .u8 92, .int .u8 110] := rfl
        have HE : Hid ((esc 10).map bv = [.int .u8 92, .int .u8 110]) := he
        clear he
        go_wp2_with (first | (at_builtin; refine wpList_append_lies _ rfl _ _ 22 rfl base 5 i0 (.int .u8 0) 1 1 Try.underlying22 hi hz0 hz1 hz2 rfl (by decide) (.slice (some ⟨g, 0, none⟩) M cp) M _ rfl (hown'.alloc _) ⟨wr.heap.size, 0, none⟩ 2 2 [.int .u8 92, .int .u8 110] rfl rfl (cell_two_new _ _ _ _) (by simp [Value.oneCell']) (by decide) (by unfold maxLen; omega) (by omega) (by simp; omega) (wr.heap.size + 1) (by simp) ?_; intro g2 cap2 w2 hown2 hgrow2 hat2 hlt2; go_frame) | go_in)
        obtain ⟨hnx2, hb2⟩ := row_step hown' hnx hbw hgrow2
        go_roundw
        case rel => exact ⟨k + 1, g2, M + 2, cap2, by omega, by go_num, rfl, by omega, by rw [HU.out, List.map_append, HE.out]; exact hown2, hnx2, hb2⟩
        case measure => simp [intOf]; omega
      have h10 : (c == 10) = false := by simpa using e10
      by_cases e13 : c = 13
      · subst e13
        have he : (esc 13).map bv = [.int .u8 92, .int .u8 114] := rfl
        have HE : Hid ((esc 13).map bv = [.int .u8 92, .int .u8 114]) := he
        clear he
        go_wp2_with (first | (at_builtin; refine wpList_append_lies _ rfl _ _ 22 rfl base 5 i0 (.int .u8 0) 1 1 Try.underlying22 hi hz0 hz1 hz2 rfl (by decide) (.slice (some ⟨g, 0, none⟩) M cp) M _ rfl (hown'.alloc _) ⟨wr.heap.size, 0, none⟩ 2 2 [.int .u8 92, .int .u8 114] rfl rfl (cell_two_new _ _ _ _) (by simp [Value.oneCell']) (by decide) (by unfold maxLen; omega) (by omega) (by simp; omega) (wr.heap.size + 1) (by simp) ?_; intro g2 cap2 w2 hown2 hgrow2 hat2 hlt2; go_frame) | go_in)
        obtain ⟨hnx2, hb2⟩ := row_step hown' hnx hbw hgrow2
        go_roundw
        case rel => exact ⟨k + 1, g2, M + 2, cap2, by omega, by go_num, rfl, by omega, by rw [HU.out, List.map_append, HE.out]; exact hown2, hnx2, hb2⟩
        case measure => simp [intOf]; omega
      have h13 : (c == 13) = false := by simpa using e13
      by_cases e9 : c = 9
      · subst e9
        have he : (esc 9).map bv = [.int .u8 92, .int .u8 116] := rfl
        have HE : Hid ((esc 9).map bv = [.int .u8 92, .int .u8 116]) := he
        clear he
        go_wp2_with (first | (at_builtin; refine wpList_append_lies _ rfl _ _ 22 rfl base 5 i0 (.int .u8 0) 1 1 Try.underlying22 hi hz0 hz1 hz2 rfl (by decide) (.slice (some ⟨g, 0, none⟩) M cp) M _ rfl (hown'.alloc _) ⟨wr.heap.size, 0, none⟩ 2 2 [.int .u8 92, .int .u8 116] rfl rfl (cell_two_new _ _ _ _) (by simp [Value.oneCell']) (by decide) (by unfold maxLen; omega) (by omega) (by simp; omega) (wr.heap.size + 1) (by simp) ?_; intro g2 cap2 w2 hown2 hgrow2 hat2 hlt2; go_frame) | go_in)
        obtain ⟨hnx2, hb2⟩ := row_step hown' hnx hbw hgrow2
        go_roundw
        case rel => exact ⟨k + 1, g2, M + 2, cap2, by omega, by go_num, rfl, by omega, by rw [HU.out, List.map_append, HE.out]; exact hown2, hnx2, hb2⟩
        case measure => simp [intOf]; omega
      have h9 : (c == 9) = false := by simpa using e9
      by_cases e32 : c < 32
      · have he : (esc c).map bv = [.int .u8 92, .int .u8 117, .int .u8 48, .int .u8 48, .int .u8 (hexd (c / 16)), .int .u8 (hexd (c % 16))] := by simp [esc, bv, e34, e92, e8, e12, e10, e13, e9, e32]
        have HE : Hid ((esc c).map bv = [.int .u8 92, .int .u8 117, .int .u8 48, .int .u8 48, .int .u8 (hexd (c / 16)), .int .u8 (hexd (c % 16))]) := he
        have ha := and15 c hbd.1 e32
        have i1 := idx_int (c / 16) (by omega) (by omega)
        have i2 := idx_int (c % 16) (by omega) (by omega)
        clear he
        go_wp2_with fail
        go_region_held3 (fun _ => True) (go_keep) ((refine step_append_lies _ (by rfl) _ _ _ (by rfl) base 5 i0 (.int .u8 0) 1 1 Try.underlying22 hi hz0 hz1 hz2 rfl (by decide) (.slice (some ⟨g, 0, none⟩) M cp) M _ (by rfl) ((hown'.alloc _).drew) ⟨wr.heap.size, 0, none⟩ 6 6 [.int .u8 92, .int .u8 117, .int .u8 48, .int .u8 48, .int .u8 (hexd (c / 16)), .int .u8 (hexd (c % 16))] (by rfl) (by rfl) (World.news_of_block (cs := #[.int .u8 92, .int .u8 117, .int .u8 48, .int .u8 48, .int .u8 (hexd (c / 16)), .int .u8 (hexd (c % 16))]) (t := 5) (fr := (0, 0)) (heap_alloc_new wr _)) (by simp [Value.oneCell']) (by omega) (by unfold maxLen; omega) (by omega) (by simp; omega) (wr.heap.size + 1) (by simp) ?_; intro g2 cap2 w2 hown2 hgrow2 hat2 hlt2))
        all_goals
          go_wp2
          obtain ⟨hnx2, hb2⟩ := row_step_drew hown' hnx hbw hgrow2
          go_roundw
          case rel => exact ⟨k + 1, g2, M + 6, cap2, by omega, by go_num, rfl, by omega, by rw [HU.out, List.map_append, HE.out]; exact hown2, hnx2, hb2⟩
          case measure => simp [intOf]; omega
      · have he : (esc c).map bv = [.int .u8 c] := by simp [esc, bv, e34, e92, e8, e12, e10, e13, e9, e32]
        have HE : Hid ((esc c).map bv = [.int .u8 c]) := he
        clear he
        go_wp2_with (first | (at_builtin; refine wpList_append_lies _ rfl _ _ 22 rfl base 5 i0 (.int .u8 0) 1 1 Try.underlying22 hi hz0 hz1 hz2 rfl (by decide) (.slice (some ⟨g, 0, none⟩) M cp) M _ rfl (hown'.alloc _) ⟨wr.heap.size, 0, none⟩ 1 1 [.int .u8 c] rfl rfl (cell_one_new _ _ _) (by simp [Value.oneCell']) (by decide) (by unfold maxLen; omega) (by omega) (by simp; omega) (wr.heap.size + 1) (by simp) ?_; intro g2 cap2 w2 hown2 hgrow2 hat2 hlt2; go_frame) | go_in)
        obtain ⟨hnx2, hb2⟩ := row_step hown' hnx hbw hgrow2
        go_roundw
        case rel => exact ⟨k + 1, g2, M + 1, cap2, by omega, by go_num, rfl, by omega, by rw [HU.out, List.map_append, HE.out]; exact hown2, hnx2, hb2⟩
        case measure => simp [intOf]; omega
    · have : k = len := by omega
      subst this
      have hend := upto_end O zs
      rw [HZ.out] at hend
      have HE : Hid (upto O zs k = O ++ 34 :: escL zs) := hend
      clear hend
      go_wp2_with (first | (at_builtin; refine wpList_append_lies _ rfl _ _ 22 rfl base 5 i0 (.int .u8 0) 1 1 Try.underlying22 hi hz0 hz1 hz2 rfl (by decide) (.slice (some ⟨g, 0, none⟩) M cp) M _ rfl (hown'.alloc _) ⟨wr.heap.size, 0, none⟩ 1 1 [.int .u8 34] rfl rfl (cell_one_new _ _ _) (by simp [Value.oneCell']) (by decide) (by unfold maxLen; omega) (by omega) (by simp; omega) (wr.heap.size + 1) (by simp) ?_; intro g2 cap2 w2 hown2 hgrow2 hat2 hlt2) | go_in)
      obtain ⟨hnx2, hb2⟩ := row_step hown' hnx hbw hgrow2
      go_ret
      refine ⟨g2, M + 1, cap2, rfl, ?_, hnx2⟩
      rw [HE.out] at hown2
      rw [show (canon O zs).map bv = (O ++ 34 :: escL zs).map bv ++ [Value.int .u8 34] by simp [canon, bv]]
      exact hown2
end Go.Proofs.Qxb6003643a
