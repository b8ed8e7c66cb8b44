/-
  Seat b6003611a: zzPutSame, zzPutMax, WALKED.
-/
import Derived.Test.Qxb6003611aJoin
import Derived.Test.Qxb6003611aBytes
namespace Go.Proofs.Qxb6003611a
open Go.RowKit Go.Maps

theorem OM.ne_cell {P : Program} {k e : TypeId} {w : World} {B n : Nat} {f : Lit → Option Int} (h : OM P k e w B n f) {b off : Nat} {v : Value} (hc : w.cell? ⟨b, off, none⟩ = some v) : b ≠ B := by
  obtain ⟨_, D, ⟨es, clock, hb, _⟩, _⟩ := h
  intro e1
  subst e1
  simp [World.cell?, hb] at hc

/-- the number that zzPutSame lays -/
def sameF (f : Lit → Option Int) : Lit → Option Int := fun x => some (at0 f x)
/-- the number that zzPutMax lays -/
def maxF (f g h : Lit → Option Int) : Lit → Option Int := fun x => some (max (max (at0 f x) (at0 g x)) (at0 h x))

set_option maxRecDepth 100000 in
theorem putSame_any (B n : Nat) (h : Lit → Option Int) (a : Option Addr) (len cap : Nat) (N : Nat → ByteArray) (S : Nat → Int) (va : Value) (na : Nat) (fa : Lit → Option Int) (w : World) (ho : OM Try.prog 9 33 w B n h) (he : Ents w a len N S) (hva : VM Try.prog 9 33 w va na fa)
    (hne : va ≠ .map (some B)) (hlen : len ≤ 1048576) (hn : n ≤ 8388608) :
    Calls Try.prog 16 #[.map (some B), .slice a len cap, va] w fun e w' => e = .returned (.tuple #[]) ∧ OM Try.prog 9 33 w' B (n + len) (lay h (sameF fa) N len) ∧ w.grownBy w' (some B) := by
  go_enter Try.func16, Try.ntmps16
  go_wp2
  go_loopw [6] (fun i wr => ∃ k : Nat, k ≤ len ∧ i = .int .i64 k ∧ OM Try.prog 9 33 wr B (n + k) (lay h (sameF fa) N k) ∧ w.grownBy wr (some B)) (fun i _ => len - (intOf i).toNat)
  case atStart => exact ⟨0, Nat.zero_le _, rfl, ho, ⟨rfl, rfl, rfl, Nat.le_refl _, fun _ _ _ => rfl⟩⟩
  case round =>
    obtain ⟨k, hk, rfl, hown, hgw⟩ := hrel
    by_cases hlk : k < len
    · obtain ⟨b, off, ea, c1, _, c3, _⟩ := he.cells k hlk
      subst ea
      have c1' := hgw.cell c1 (fun e1 => ho.ne_cell c1 (Option.some.inj e1))
      have hva' := hva.kept hgw (fun b hb => by cases hb; exact hne)
      have r1 := hva'.look (t := 26) Try.underlying9 Try.underlying33 Try.underlying26 (zero33 _) c3
      obtain ⟨g0, g1⟩ := at0_wf hva.wf (kS (N k))
      clear c1 he
      go_wp2_with (first
        | (at_mapUpdate; refine wpList_put (P := Try.prog) (k := 9) (e := 33) _ rfl _ _ _ 25 rfl Try.underlying9 Try.underlying33 Try.underlying25 B _ _ rfl hown (by unfold maxLen; omega) (N k) _ rfl rfl c3 g0 g1 ?_; intro w5 hown5 hgrow5; go_frame)
        | go_in)
      go_roundw
      case rel => exact ⟨k + 1, by omega, by go_num, hown5, hgw.andThen hgrow5 (fun j hj => by cases hj; exact .inr rfl)⟩
      case measure => simp [intOf]; omega
    · have : k = len := by omega
      subst this
      go_wp2
      go_end0
      exact ⟨rfl, hown, hgw⟩

set_option maxRecDepth 100000 in
theorem putMax_any (B n : Nat) (h : Lit → Option Int) (a : Option Addr) (len cap : Nat) (N : Nat → ByteArray) (S : Nat → Int) (va vb vc : Value) (na nb nc : Nat) (fa fb fc : Lit → Option Int) (w : World) (ho : OM Try.prog 9 33 w B n h) (he : Ents w a len N S)
    (hva : VM Try.prog 9 33 w va na fa) (hvb : VM Try.prog 9 33 w vb nb fb) (hvc : VM Try.prog 9 33 w vc nc fc)
    (ea : va ≠ .map (some B)) (eb : vb ≠ .map (some B)) (ec : vc ≠ .map (some B)) (hlen : len ≤ 1048576) (hn : n ≤ 8388608) :
    Calls Try.prog 13 #[.map (some B), .slice a len cap, va, vb, vc] w fun e w' => e = .returned (.tuple #[]) ∧ OM Try.prog 9 33 w' B (n + len) (lay h (maxF fa fb fc) N len) ∧ w.grownBy w' (some B) := by
  go_enter Try.func13, Try.ntmps13
  go_wp2
  go_loopw [10] (fun i wr => ∃ k : Nat, k ≤ len ∧ i = .int .i64 k ∧ OM Try.prog 9 33 wr B (n + k) (lay h (maxF fa fb fc) N k) ∧ w.grownBy wr (some B)) (fun i _ => len - (intOf i).toNat)
  case atStart => exact ⟨0, Nat.zero_le _, rfl, ho, ⟨rfl, rfl, rfl, Nat.le_refl _, fun _ _ _ => rfl⟩⟩
  case round =>
    obtain ⟨k, hk, rfl, hown, hgw⟩ := hrel
    by_cases hlk : k < len
    · obtain ⟨b, off, ea', c1, _, c3, _⟩ := he.cells k hlk
      subst ea'
      have c1' := hgw.cell c1 (fun e1 => ho.ne_cell c1 (Option.some.inj e1))
      have hd : wr.grownBy wr.drew none := ⟨rfl, rfl, rfl, Nat.le_refl _, fun _ _ _ => rfl⟩
      have r1 := ((hva.kept hgw (fun b hb => by cases hb; exact ea)).kept hd (fun b hb => by cases hb)).look (t := 26) Try.underlying9 Try.underlying33 Try.underlying26 (zero33 _) c3
      have r2 := ((hvb.kept hgw (fun b hb => by cases hb; exact eb)).kept hd (fun b hb => by cases hb)).look (t := 26) Try.underlying9 Try.underlying33 Try.underlying26 (zero33 _) c3
      have r3 := ((hvc.kept hgw (fun b hb => by cases hb; exact ec)).kept hd (fun b hb => by cases hb)).look (t := 26) Try.underlying9 Try.underlying33 Try.underlying26 (zero33 _) c3
      obtain ⟨g0, g1⟩ := at0_wf hva.wf (kS (N k))
      obtain ⟨g2, g3⟩ := at0_wf hvb.wf (kS (N k))
      obtain ⟨g4, g5⟩ := at0_wf hvc.wf (kS (N k))
      have hown' := hown.kept hd (by simp)
      clear c1 he
      go_wp2
      refine wp_region_still_tail 13 (by kernel_rfl) (by kernel_rfl) ?_
      simp only [List.take_succ_cons, List.take_zero, List.drop_succ_cons, List.drop_zero]
      repeat (first | still_step | still_call (max_any _ _ _))
      try refine wpStill_nil ?_
      refine wpList_put (P := Try.prog) (k := 9) (e := 33) _ rfl _ _ _ 25 rfl Try.underlying9 Try.underlying33 Try.underlying25 B _ _ rfl hown' (by unfold maxLen; omega) (N k) (max (max (at0 fa (kS (N k))) (at0 fb (kS (N k)))) (at0 fc (kS (N k)))) rfl rfl c3 (by omega) (by omega) ?_
      intro w5 hown5 hgrow5
      go_wp2
      go_roundw
      case rel => exact ⟨k + 1, by omega, by go_num, hown5, (hgw.andThen hd (fun j hj => by cases hj)).andThen hgrow5 (fun j hj => by cases hj; exact .inr rfl)⟩
      case measure => simp [intOf]; omega
    · have : k = len := by omega
      subst this
      go_wp2
      go_end0
      exact ⟨rfl, hown, hgw⟩
end Go.Proofs.Qxb6003611a
