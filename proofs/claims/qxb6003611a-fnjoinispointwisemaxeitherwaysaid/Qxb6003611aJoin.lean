/-
  Seat b6003611a: Version.Join, WALKED: two ranges, one behind the other, in the round of a loop over the two versions.
-/
import Derived.Test.Qxb6003611aMeet
namespace Go.Proofs.Qxb6003611a
open Go.RowKit Go.Maps

/-- what j holds before the round q -/
def stg (f g : Lit → Option Int) : Nat → (Lit → Option Int)
  | 0 => noneF
  | 1 => joinF noneF f
  | _ => joinF (joinF noneF f) g
/-- how many entries at most -/
def bnd (n m : Nat) : Nat → Nat
  | 0 => 0
  | 1 => n
  | _ => n + m

theorem grown_cell {w w' : World} {row : Option Nat} {a : Addr} {v : Value} (hg : w.grownBy w' row) (h : w.cell? a = some v) (hne : some a.block ≠ row) : w'.cell? a = some v := hg.cell h hne

set_option maxRecDepth 100000 in
set_option maxHeartbeats 1000000 in
theorem join_core (x y : Option Nat) (n m : Nat) (f g : Lit → Option Int) (w : World) (hv : VM Try.prog 9 33 w (.map x) n f) (ho : VM Try.prog 9 33 w (.map y) m g) (hn : n ≤ 4194304) (hm : m ≤ 4194304) :
    Calls Try.prog 12 #[.map x, .map y] w fun e w' => e = .returned (.map (some w.heap.size)) ∧ OM Try.prog 9 33 w' w.heap.size (n + m) (joinF (joinF noneF f) g) ∧ Below w.heap.size w w' := by
  have hmm := @run_makeMap Try.prog
  go_enter Try.func12, Try.ntmps12
  go_wp2
  go_loopw [15] (fun i wr => ∃ q : Nat, q ≤ 2 ∧ i = .int .i64 q ∧ OM Try.prog 9 33 wr w.heap.size (bnd n m q) (stg f g q) ∧ Below w.heap.size w wr ∧ w.heap.size + 2 ≤ wr.heap.size ∧
      wr.cell? ⟨w.heap.size + 1, 0, none⟩ = some (.map x) ∧ wr.cell? ⟨w.heap.size + 1, 1, none⟩ = some (.map y))
    (fun i _ => 2 - (intOf i).toNat)
  case atStart =>
    refine ⟨0, by omega, rfl, ((om_made _ _ _ _).kept (World.grownBy_alloc _ _ none) (by simp)), ((Below.refl _ _).alloc (Nat.le_refl _) _).alloc (by simp) _, by simp, by simp [go_sem], by simp [go_sem]⟩
  case round =>
    obtain ⟨q, hq, rfl, hown, hnx, hsz, hcx, hcy⟩ := hrel
    by_cases hlq : q < 2
    · obtain ⟨z, nq, fq, hcell, hvm, hst, hbd⟩ : ∃ (z : Option Nat) (nq : Nat) (fq : Lit → Option Int), wr.cell? ⟨w.heap.size + 1, q, none⟩ = some (.map z) ∧ VM Try.prog 9 33 w (.map z) nq fq ∧ stg f g (q + 1) = joinF (stg f g q) fq ∧ bnd n m (q + 1) = bnd n m q + nq := by
        match q, hlq with
        | 0, _ => exact ⟨x, n, f, hcx, hv, rfl, by simp [bnd]⟩
        | 1, _ => exact ⟨y, m, g, hcy, ho, rfl, rfl⟩
      have HS : Hid (stg f g (q + 1) = joinF (stg f g q) fq) := hst
      have HB : Hid (bnd n m (q + 1) = bnd n m q + nq) := hbd
      have hble : bnd n m q + nq ≤ 8388608 := by
        rw [← hbd]
        match q, hlq with
        | 0, _ => simp [bnd]; omega
        | 1, _ => simp [bnd]; omega
      clear hst hbd hv ho
      have hqi : (q : Int) < 2 := by omega
      go_wp2_with (first
        | (at_range; refine wpList_rangeV (P := Try.prog) (k := 9) (e := 33) _ rfl _ 26 rfl Try.underlying9 Try.underlying26 (.map z) nq fq rfl (hvm.below hnx) ?_; intro w0 cnt0 hrg0 hc0 hg0 hs0)
        | go_in)
      go_frame
      go_loopw [8] (fun _ wi => ∃ (left : Lit → Bool) (cnt : Nat), RG Try.prog 9 33 wi (.map z) wr.heap.size nq fq left cnt ∧ cnt ≤ nq ∧ OM Try.prog 9 33 wi w.heap.size (bnd n m q + (nq - cnt)) (partJ (stg f g q) fq left) ∧ Below w.heap.size w wi ∧
          w.heap.size + 2 ≤ wi.heap.size ∧ wi.cell? ⟨w.heap.size + 1, 0, none⟩ = some (.map x) ∧ wi.cell? ⟨w.heap.size + 1, 1, none⟩ = some (.map y))
        (fun _ wi => leftN wi (.map z) wr.heap.size)
      case atStart =>
        refine ⟨_, _, hrg0, hc0, ?_, hnx.grown hg0 hnx.size (fun j hj => by cases hj), by omega, grown_cell hg0 hcx (by simp), grown_cell hg0 hcy (by simp)⟩
        rw [partJ_start]
        exact (hown.kept hg0 (by simp)).mono (Nat.le_add_right _ _)
      case round =>
        obtain ⟨left, cnt, hrg, hcn, hout, hnx', hsz', hcx', hcy'⟩ := hrel
        go_wp2_with (first
          | (at_next; refine wpList_nextV (P := Try.prog) (k := 9) (e := 33) _ rfl _ rfl Try.underlying9 Try.underlying33 (.map z) _ nq fq left cnt rfl hrg ?_ ?_)
          | go_in)
        · intro hc1 hl0
          rw [partJ_end hl0] at hout
          go_wp2
          go_roundw
          case rel =>
            refine ⟨q + 1, by omega, by go_num, ?_, hnx', hsz', hcx', hcy'⟩
            rw [HS.out, HB.out]
            exact hout.mono (by omega)
          case measure => simp [intOf]; omega
        · intro s c w1 cnt1 hs hc0' hc1' hls hfs hrg1 hlt hg1 hs1 hen
          have hnx1 : Below w.heap.size w w1 := hnx'.grown hg1 hnx'.size (fun j hj => by cases hj; omega)
          have hout1 := hout.kept hg1 (fun e => by have := Option.some.inj e; omega)
          have hlook := hout1.vm.look (t := 26) Try.underlying9 Try.underlying33 Try.underlying26 (zero33 _) hs
          obtain ⟨g0, g1⟩ := at0_wf hout1.wf (kS s)
          have hput := partJ_put (h := stg f g q) (key_kS s) hls hfs
          by_cases hcmp : at0 (partJ (stg f g q) fq left) (kS s) < c
          · rw [show max (at0 (partJ (stg f g q) fq left) (kS s)) c = c by omega] at hput
            have HP : Hid (upd (partJ (stg f g q) fq left) (kS s) c = partJ (stg f g q) fq (fun z => left z && !z.sameKey (kS s))) := hput
            clear hput
            go_wp2_with (first
              | (at_mapUpdate; refine wpList_put (P := Try.prog) (k := 9) (e := 33) _ rfl _ _ _ 26 rfl Try.underlying9 Try.underlying33 Try.underlying26 w.heap.size _ _ rfl hout1 (by unfold maxLen; omega) s _ rfl rfl hs (by omega) (by omega) ?_; intro w2 hown2 hgrow2; go_frame)
              | go_in)
            rw [HP.out] at hown2
            have hrg2 := hrg1.kept hgrow2 (fun b hb => by cases hb; exact hvm.ne (Nat.le_refl _)) (fun e => by have := Option.some.inj e; omega)
            go_roundw
            case rel => exact ⟨_, cnt1, hrg2, by omega, hown2.mono (by omega), hnx1.grown hgrow2 hnx1.size (fun j hj => by cases hj; exact Nat.le_refl _), by have := hgrow2.size; omega,
              grown_cell hgrow2 (grown_cell hg1 hcx' (fun e => by have := Option.some.inj e; simp at this; omega)) (fun e => by have := Option.some.inj e; simp at this),
              grown_cell hgrow2 (grown_cell hg1 hcy' (fun e => by have := Option.some.inj e; simp at this; omega)) (fun e => by have := Option.some.inj e; simp at this)⟩
            case measure => rw [hrg2.left_eq, hrg.left_eq]; exact hlt
          · rw [show max (at0 (partJ (stg f g q) fq left) (kS s)) c = at0 (partJ (stg f g q) fq left) (kS s) by omega] at hput
            have HP : Hid (upd (partJ (stg f g q) fq left) (kS s) (at0 (partJ (stg f g q) fq left) (kS s)) = partJ (stg f g q) fq (fun z => left z && !z.sameKey (kS s))) := hput
            clear hput
            go_wp2_with (first
              | (at_mapUpdate; refine wpList_put (P := Try.prog) (k := 9) (e := 33) _ rfl _ _ _ 26 rfl Try.underlying9 Try.underlying33 Try.underlying26 w.heap.size _ _ rfl hout1 (by unfold maxLen; omega) s _ rfl rfl hs (by omega) (by omega) ?_; intro w2 hown2 hgrow2; go_frame)
              | go_in)
            rw [HP.out] at hown2
            have hrg2 := hrg1.kept hgrow2 (fun b hb => by cases hb; exact hvm.ne (Nat.le_refl _)) (fun e => by have := Option.some.inj e; omega)
            go_roundw
            case rel => exact ⟨_, cnt1, hrg2, by omega, hown2.mono (by omega), hnx1.grown hgrow2 hnx1.size (fun j hj => by cases hj; exact Nat.le_refl _), by have := hgrow2.size; omega,
              grown_cell hgrow2 (grown_cell hg1 hcx' (fun e => by have := Option.some.inj e; simp at this; omega)) (fun e => by have := Option.some.inj e; simp at this),
              grown_cell hgrow2 (grown_cell hg1 hcy' (fun e => by have := Option.some.inj e; simp at this; omega)) (fun e => by have := Option.some.inj e; simp at this)⟩
            case measure => rw [hrg2.left_eq, hrg.left_eq]; exact hlt
    · have : q = 2 := by omega
      subst this
      go_wp2
      go_ret
      exact ⟨rfl, hown, hnx⟩

theorem VM.isMap {P : Program} {k e : TypeId} {w : World} {v : Value} {n : Nat} {f : Lit → Option Int} (h : VM P k e w v n f) : ∃ x, v = .map x := by
  rcases h with ⟨rfl, _⟩ | ⟨b, rfl, _⟩
  · exact ⟨_, rfl⟩
  · exact ⟨_, rfl⟩

theorem join_any (v o : Value) (n m : Nat) (f g : Lit → Option Int) (w : World) (hv : VM Try.prog 9 33 w v n f) (ho : VM Try.prog 9 33 w o m g) (hn : n ≤ 4194304) (hm : m ≤ 4194304) :
    Calls Try.prog 12 #[v, o] w fun e w' => e = .returned (.map (some w.heap.size)) ∧ OM Try.prog 9 33 w' w.heap.size (n + m) (joinF (joinF noneF f) g) ∧ Below w.heap.size w w' := by
  obtain ⟨x, rfl⟩ := hv.isMap
  obtain ⟨y, rfl⟩ := ho.isMap
  exact join_core x y n m f g w hv ho hn hm
end Go.Proofs.Qxb6003611a
