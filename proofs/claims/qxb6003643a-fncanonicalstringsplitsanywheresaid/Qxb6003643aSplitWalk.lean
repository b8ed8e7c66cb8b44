/-
  Seat b6003643a: FnCanonicalStringSplitsAnywhere, WALKED.
-/
import Derived.Test.Qxb6003643aSplitLaw
namespace Go.Proofs.Qxb6003643a
open Go.RowKit

theorem wrap_nat (m : Nat) (h : m ≤ 10000000) : IntKind.i64.wrap (m : Int) = (m : Int) := by
  rw [IntKind.wrap_i64]
  omega

theorem equal_same' (a0 a1 : Option Addr) (len0 len1 cap0 cap1 : Nat) (zs : List Int) (w : World) (he : len0 = len1) (h0 : Rd w w.heap.size a0 len0 zs) (h1 : Rd w w.heap.size a1 len1 zs) (hlen : len0 ≤ 16777216) :
    Calls Try.prog 10 #[.slice a0 len0 cap0, .slice a1 len1 cap1] w fun e w' => e = .returned (.bool true) ∧ Below w.heap.size w w' := by
  subst he
  exact equal_same a0 a1 len0 cap0 cap1 zs w h0 h1 hlen

theorem own_cap {w : World} {base g n cap : Nat} {xs : List Value} (h : w.ownsRow base 5 1 (.slice (some ⟨g, 0, none⟩) n cap) n xs) : n ≤ cap := by
  rcases h.2 with ⟨hv, _⟩ | ⟨g, cp, cur, hv, _, _, hle, _⟩
  · cases hv
  · cases hv; exact hle

set_option maxRecDepth 100000 in
set_option maxHeartbeats 2000000 in
theorem walk4 (a0 a1 a2 : Option Addr) (len0 len1 len2 cap0 cap1 cap2 : Nat) (O A B : List Int) (w : World) (h0 : Rd w w.heap.size a0 len0 O) (h1 : Rd w w.heap.size a1 len1 A) (h2 : Rd w w.heap.size a2 len2 B)
    (m0 : len0 ≤ maxLen) (m1 : len1 ≤ maxLen) (m2 : len2 ≤ maxLen) (n0 : a0 = none → len0 = 0 ∧ cap0 = 0) (n1 : a1 = none → len1 = 0 ∧ cap1 = 0) (n2 : a2 = none → len2 = 0 ∧ cap2 = 0) :
    Calls Try.prog 4 #[.slice a0 len0 cap0, .slice a1 len1 cap1, .slice a2 len2 cap2] w fun e w' => e = .returned (.bool true) ∧ Below w.heap.size w w' := by
  go_enter Try.func4, Try.ntmps4
  go_wp2_with fail
  refine (bytes12 a0 a1 a2 len0 len1 len2 cap0 cap1 cap2 w m0 m1 m2).mono ?_
  rintro e w' ⟨⟨r, rfl⟩, hw⟩
  obtain rfl := hw.symm
  unfold maxLen at m0 m1 m2
  cases r with
  | false =>
    go_wp2
    go_ret
    exact ⟨rfl, Below.refl _ _⟩
  | true =>
    by_cases l0 : 1048576 < len0
    · go_wp2
      go_ret
      exact ⟨rfl, Below.refl _ _⟩
    · by_cases l1 : 1048576 < len1
      · go_wp2
        go_ret
        exact ⟨rfl, Below.refl _ _⟩
      · by_cases l2 : 1048576 < len2
        · go_wp2
          go_ret
          exact ⟨rfl, Below.refl _ _⟩
        · by_cases l3 : 1048576 < len0 + len1
          · go_wp2
            go_ret
            exact ⟨rfl, Below.refl _ _⟩
          · by_cases l4 : 1048576 < len0 + len1 + len2
            · go_wp2
              go_ret
              exact ⟨rfl, Below.refl _ _⟩
            · have d0 : decide (1048576 < (len0 : Int)) = false := by simp; omega
              have d1 : decide (1048576 < (len1 : Int)) = false := by simp; omega
              have d2 : decide (1048576 < (len2 : Int)) = false := by simp; omega
              clear l0 l1 l2 l3 m0 m1 m2
              go_wp2_with fail
              refine (clone_any a0 len0 cap0 O w h0 n0 (by omega)).mono ?_
              rintro e w1 ⟨q1, rfl, o1, b1⟩
              have hB1 : Below w.heap.size w w1 := b1
              obtain ⟨r1, k1⟩ := own_rd o1 h0.2.1
              go_wp2_with fail
              refine (clone_any a0 len0 cap0 O w1 ((h0.below hB1).mono hB1.size) n0 (by omega)).mono ?_
              rintro e w2 ⟨q2, rfl, o2, b2⟩
              have hB2 : Below w.heap.size w w2 := hB1.trans (b2.mono hB1.size)
              obtain ⟨r2, k2⟩ := own_rd o2 h0.2.1
              have r1_2 := (r1.below b2).mono b2.size
              go_wp2_with fail
              refine (clone_any a1 len1 cap1 A w2 ((h1.below hB2).mono hB2.size) n1 (by omega)).mono ?_
              rintro e w3 ⟨q3, rfl, o3, b3⟩
              have hB3 : Below w.heap.size w w3 := hB2.trans (b3.mono hB2.size)
              obtain ⟨r3, k3⟩ := own_rd o3 h1.2.1
              have r1_3 := (r1_2.below b3).mono b3.size
              have r2_3 := (r2.below b3).mono b3.size
              go_wp2_with fail
              refine (clone_any a2 len2 cap2 B w3 ((h2.below hB3).mono hB3.size) n2 (by omega)).mono ?_
              rintro e w4 ⟨q4, rfl, o4, b4⟩
              have hB4 : Below w.heap.size w w4 := hB3.trans (b4.mono hB3.size)
              obtain ⟨r4, k4⟩ := own_rd o4 h2.2.1
              have r1_4 := (r1_3.below b4).mono b4.size
              have r2_4 := (r2_3.below b4).mono b4.size
              have r3_4 := (r3.below b4).mono b4.size
              go_wp2_with fail
              refine (concat_any q3 q4 len1 len2 len1 len2 A B w4 r3_4 r4 (by omega) (by omega)).mono ?_
              rintro e w5 ⟨rfl, o5, b5⟩
              have hB5 : Below w.heap.size w w5 := hB4.trans (b5.mono hB4.size)
              have hAB : ∀ z ∈ A ++ B, 0 ≤ z ∧ z ≤ 255 := fun z hz => (List.mem_append.1 hz).elim (h1.2.1 z) (h2.2.1 z)
              have r5 := rd_of_own o5 hAB
              have r1_5 := (r1_4.below b5).mono b5.size
              have r2_5 := (r2_4.below b5).mono b5.size
              have r3_5 := (r3_4.below b5).mono b5.size
              have r4_5 := (r4.below b5).mono b5.size
              clear r1 r1_2 r1_3 r1_4 r2 r2_3 r2_4 r3 r3_4 r4 o1 o2 o3 o4 o5 b1 b2 b3 b4 b5 hB1 hB2 hB3 hB4
              go_wp2_with fail
              refine (clone_any q2 len0 len0 O w5 r2_5 k2 (by omega)).mono ?_
              rintro e w6 ⟨q6, rfl, o6, b6⟩
              have hB6 : Below w.heap.size w w6 := hB5.trans (b6.mono hB5.size)
              go_wp2_with fail
              refine (zappend_any q6 len0 len0 w5.heap.size O _ (len1 + len2) (len1 + len2) (A ++ B) w6 o6 b6.size (r5.below b6) (by omega) (by omega)).mono ?_
              rintro e w7 ⟨g7, M7, c7, rfl, o7, b7⟩
              have b57 : Below w5.heap.size w5 w7 := b6.trans b7
              have hB7 : Below w.heap.size w w7 := hB5.trans (b57.mono hB5.size)
              have hM7c := own_cap o7
              have r7 := rd_of_own o7 (canon_bd h0.2.1 hAB)
              have r1_7 := (r1_5.below b57).mono b57.size
              have r2_7 := (r2_5.below b57).mono b57.size
              have r3_7 := (r3_5.below b57).mono b57.size
              have r4_7 := (r4_5.below b57).mono b57.size
              clear r1_5 r2_5 r3_5 r4_5 r5 o6 o7 b6 b7 b57 hB5 hB6
              go_wp2_with fail
              refine (clone_any q2 len0 len0 O w7 r2_7 k2 (by omega)).mono ?_
              rintro e w8 ⟨q8, rfl, o8, b8⟩
              go_wp2_with fail
              refine (zappend_any q8 len0 len0 w7.heap.size O q3 len1 len1 A w8 o8 b8.size (r3_7.below b8) (by omega) (by omega)).mono ?_
              rintro e w9 ⟨g9, M9, c9, rfl, o9, b9⟩
              have b79 : Below w7.heap.size w7 w9 := b8.trans b9
              have hB9 : Below w.heap.size w w9 := hB7.trans (b79.mono hB7.size)
              have hM9c := own_cap o9
              have r9 := rd_of_own o9 (canon_bd h0.2.1 h1.2.1)
              have r1_9 := (r1_7.below b79).mono b79.size
              have r4_9 := (r4_7.below b79).mono b79.size
              have r7_9 := (r7.below b79).mono b79.size
              clear r1_7 r2_7 r3_7 r4_7 r7 o8 o9 b8 b9 b79 hB7
              go_wp2_with fail
              refine (zappend_any none 0 0 w9.heap.size [] q4 len2 len2 B w9 (World.ownsRow_nil _ _ _ _) (Nat.le_refl _) r4_9 (by omega) (by omega)).mono ?_
              rintro e w10 ⟨g10, M10, c10, rfl, o10, b10⟩
              have hB10 : Below w.heap.size w w10 := hB9.trans (b10.mono hB9.size)
              have r10 := rd_of_own o10 (canon_bd (O := []) (by simp) h2.2.1)
              have r1_10 := (r1_9.below b10).mono b10.size
              have r7_10 := (r7_9.below b10).mono b10.size
              have r9_10 := (r9.below b10).mono b10.size
              have hM10c := own_cap o10
              clear r1_9 r4_9 r7_9 r9 o10 b10 hB9
              have hl0 : O.length = len0 := h0.1
              have eM7 : M7 = len0 + 1 + (escL (A ++ B)).length + 1 := by rw [← r7_10.1, canon_length, hl0]
              have eM9 : M9 = len0 + 1 + (escL A).length + 1 := by rw [← r9_10.1, canon_length, hl0]
              have eM10 : M10 = (escL B).length + 1 + 1 := by rw [← r10.1, canon_length]; simp; omega
              have bA := escL_len A
              have bB := escL_len B
              have bAB := escL_len (A ++ B)
              rw [h1.1] at bA
              rw [h2.1] at bB
              rw [List.length_append, h1.1, h2.1] at bAB
              obtain ⟨m7, f7⟩ : ∃ m, m = len0 + 1 + (escL (A ++ B)).length := ⟨_, rfl⟩
              obtain ⟨m9, f9⟩ : ∃ m, m = len0 + 1 + (escL A).length := ⟨_, rfl⟩
              obtain ⟨m10, f10⟩ : ∃ m, m = (escL B).length + 1 := ⟨_, rfl⟩
              rw [← f7] at eM7
              rw [← f9] at eM9
              rw [← f10] at eM10
              subst eM7 eM9 eM10
              have s7 : len0 + 1 ≤ m7 := by omega
              have t7 : m7 ≤ 10000000 := by omega
              have t9 : m9 ≤ 10000000 := by omega
              have t10 : m10 ≤ 10000000 := by omega
              have u10 : 1 ≤ m10 := by omega
              have hlaw : (canon O A).take m9 ++ (canon [] B).drop 1 = canon O (A ++ B) := by rw [f9, ← hl0]; exact split_law O A B
              have hpre : (canon O (A ++ B)).take len0 = O := by rw [← hl0]; exact canon_pre O (A ++ B)
              have hat : (canon O (A ++ B)).getD len0 0 = 34 := by rw [← hl0]; exact canon_at O (A ++ B)
              have hla : (canon O (A ++ B)).getD m7 0 = 34 := by rw [f7, ← hl0]; exact canon_last O (A ++ B)
              have rx := r9_10.take
              have ry := r10.drop
              have rp := r7_10.pre (n := len0) (by omega)
              rw [hpre] at rp
              have LW : Hid ((canon O A).take m9 ++ (canon [] B).drop 1 = canon O (A ++ B)) := hlaw
              have LA : Hid ((canon O (A ++ B)).getD len0 0 = 34) := hat
              have LL : Hid ((canon O (A ++ B)).getD m7 0 = 34) := hla
              clear hlaw hpre hat hla f7 f9 f10 bA bB bAB hl0 k1 k2 k3 k4
              go_wp2
              have hw9 := wrap_nat m9 t9
              have v9 : (m9 : Int) ≤ (c9 : Int) := by omega
              have v10 : (1 : Int) ≤ (m10 : Int) + 1 := by omega
              have x10 : (c10 = 1) = False := by simp; omega
              go_still_tail 7, (by kernel_rfl)
              clear hw9
              go_wp2_with fail
              refine (concat_any (some ⟨g9, 0, none⟩) (some ⟨g10, 1, none⟩) m9 m10 c9 (c10 - 1) _ _ w10.drew (rx.below (Below.refl _ _).drew) (ry.below (Below.refl _ _).drew) (by omega) (by omega)).mono ?_
              rintro e w11 ⟨rfl, o11, b11⟩
              rw [LW.out] at o11
              have hd11 : Below w10.heap.size w10 w11 := (Below.refl _ _).drew.trans b11
              have hB11 : Below w.heap.size w w11 := hB10.trans (hd11.mono hB10.size)
              have r11 := rd_of_own o11 (canon_bd h0.2.1 hAB)
              have r1_11 := (r1_10.below hd11).mono hd11.size
              have r7_11 := (r7_10.below hd11).mono hd11.size
              have rp_11 := (rp.below hd11).mono hd11.size
              clear r1_10 r7_10 r9_10 r10 rx ry rp o11 b11 hd11 hB10
              have el : m7 + 1 = m9 + m10 := by rw [← r7_11.1, ← r11.1]
              have EL : Hid (m7 + 1 = m9 + m10) := el
              clear el
              go_wp2_with fail
              refine (equal_same (some ⟨g7, 0, none⟩) q1 len0 c7 len0 O w11 rp_11 r1_11 (by omega)).mono ?_
              rintro e w12 ⟨rfl, b12⟩
              have hB12 : Below w.heap.size w w12 := hB11.trans (b12.mono hB11.size)
              have r7_12 := (r7_11.below b12).mono b12.size
              have r11_12 := (r11.below b12).mono b12.size
              obtain ⟨b, off, ea, _, cl⟩ := r7_12.cells len0 (by omega)
              cases ea
              obtain ⟨b, off, ea, _, cm⟩ := r7_12.cells m7 (by omega)
              cases ea
              rw [LA.out, Nat.zero_add] at cl
              rw [LL.out, Nat.zero_add] at cm
              clear r7_11 r11 r1_11 rp_11 b12 hB11
              go_wp2_with fail
              refine (equal_same' (some ⟨g7, 0, none⟩) (some ⟨w10.heap.size, 0, none⟩) (m7 + 1) (m9 + m10) c7 (m9 + m10) _ w12 EL.out r7_12 r11_12 (by omega)).mono ?_
              rintro e w13 ⟨rfl, b13⟩
              go_wp2
              go_ret
              exact ⟨rfl, hB12.trans (b13.mono hB12.size)⟩
end Go.Proofs.Qxb6003643a
