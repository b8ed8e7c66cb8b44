/-
  Seat b6003611a. A map[string]uint64 of the call's own, said by ONE FUNCTION 'f : Lit -> Option Int' (key to number): what a store, a look-up, 'len', a range and its step do to it; a nil map by the same words.
-/
import Derived.Maps.Ext
import Derived.Maps.RangeWalk
import Derived.Laws.IdiomRangeMap
namespace Go.Proofs.Qxb6003611a
open Go.RowKit Go.Maps
open Go.WideMaps (keyOf_string_mk)

/-! ### the plain functions -/
def noneF : Lit → Option Int := fun _ => none
def upd (f : Lit → Option Int) (k : Lit) (c : Int) : Lit → Option Int := fun x => if x.sameKey k then some c else f x
/-- every number is a uint64's -/
def WfF (f : Lit → Option Int) : Prop := ∀ k c, f k = some c → 0 ≤ c ∧ c ≤ 18446744073709551615
/-- the number at a key, 0 where absent -/
def at0 (f : Lit → Option Int) (k : Lit) : Int := (f k).getD 0

theorem wf_none : WfF noneF := fun _ _ h => by cases h
theorem wf_upd {f : Lit → Option Int} {k : Lit} {c : Int} (h : WfF f) (h0 : 0 ≤ c) (h1 : c ≤ 18446744073709551615) : WfF (upd f k c) := by
  intro x d hx
  unfold upd at hx
  split at hx
  · cases hx; exact ⟨h0, h1⟩
  · exact h x d hx
theorem at0_wf {f : Lit → Option Int} (h : WfF f) (k : Lit) : 0 ≤ at0 f k ∧ at0 f k ≤ 18446744073709551615 := by
  unfold at0
  cases hk : f k with
  | none => simp
  | some c => simpa using h k c hk
theorem upd_same {f : Lit → Option Int} {k : Lit} {c : Int} (hk : WideAt.IsKeyLit k) : upd f k c k = some c := by simp [upd, WideAt.sameKey_self hk]
theorem upd_other {f : Lit → Option Int} {k x : Lit} {c : Int} (hx : x ≠ k) : upd f k c x = f x := by simp [upd, sameKey_ne hx]
theorem wf_u64 {c : Int} (h0 : 0 ≤ c) (h1 : c ≤ 18446744073709551615) : (Lit.int .u64 c).wf = true := by
  simp [Lit.wf, IntKind.min, IntKind.max, IntKind.signed, IntKind.bits]; omega
theorem u64_wf {c : Int} (h : (Lit.int .u64 c).wf = true) : 0 ≤ c ∧ c ≤ 18446744073709551615 := by
  simp [Lit.wf, IntKind.min, IntKind.max, IntKind.signed, IntKind.bits] at h; omega

/-! ### a datum and its function -/
/-- THE DATUM D HOLDS JUST WHAT f SAYS. -/
def Vw (D : DataW Unit) (f : Lit → Option Int) : Prop := IsMap D ∧ ∀ k z, D.atKey k z = (match f k with | some c => .lit (.int .u64 c) | none => z)

theorem vw_empty : Vw (.map []) noneF := ⟨isMap_empty, fun _ _ => rfl⟩
theorem vw_has {D : DataW Unit} {f : Lit → Option Int} (h : Vw D f) (k : Lit) : Maps.has D k = (f k).isSome := by
  cases hk : f k with
  | none => exact has_false_of_atKey (fun z => by rw [h.2, hk])
  | some c => exact has_true_of_atKey (y := .lit (.int .u64 c)) (fun z => by rw [h.2, hk])
theorem vw_put {D : DataW Unit} {f : Lit → Option Int} {k : Lit} (h : Vw D f) (hk : WideAt.IsKeyLit k) (c : Int) : Vw (D.put k (.lit (.int .u64 c))) (upd f k c) := by
  refine ⟨h.1.put _ _, fun x z => ?_⟩
  by_cases e : x = k
  · subst e
    rw [atKey_put_same h.1 hk, upd_same hk]
  · rw [atKey_put_other e, h.2, upd_other e]
theorem vw_ext {D₁ D₂ : DataW Unit} {f : Lit → Option Int} (h₁ : Vw D₁ f) (h₂ : Vw D₂ f) (c₁ : Canon D₁) (c₂ : Canon D₂) : D₁ = D₂ :=
  Maps.ext c₁ c₂ (fun k => by rw [vw_has h₁, vw_has h₂]) (fun k z _ => by rw [h₁.2, h₂.2])

section
variable {P : Program} {k e : TypeId}

/-- BLOCK b IS A MAP OF AT MOST n ENTRIES, f. -/
def OM (P : Program) (k e : TypeId) (w : World) (b n : Nat) (f : Lit → Option Int) : Prop := WfF f ∧ ∃ D : DataW Unit, w.ownsMap P k (plainElem P e) b n D ∧ Vw D f
/-- THE MAP VALUE v (nil, or a block) IS f. -/
def VM (P : Program) (k e : TypeId) (w : World) (v : Value) (n : Nat) (f : Lit → Option Int) : Prop := (v = .map none ∧ f = noneF) ∨ ∃ b, v = .map (some b) ∧ OM P k e w b n f

theorem OM.wf {w : World} {b n : Nat} {f : Lit → Option Int} (h : OM P k e w b n f) : WfF f := h.1
theorem VM.wf {w : World} {v : Value} {n : Nat} {f : Lit → Option Int} (h : VM P k e w v n f) : WfF f := by
  rcases h with ⟨_, rfl⟩ | ⟨b, _, h⟩
  · exact wf_none
  · exact h.1
theorem OM.vm {w : World} {b n : Nat} {f : Lit → Option Int} (h : OM P k e w b n f) : VM P k e w (.map (some b)) n f := .inr ⟨b, rfl, h⟩
theorem OM.lt {w : World} {b n : Nat} {f : Lit → Option Int} (h : OM P k e w b n f) : b < w.heap.size := by obtain ⟨_, D, h, _⟩ := h; exact h.lt
theorem OM.mono {w : World} {b n n' : Nat} {f : Lit → Option Int} (h : OM P k e w b n f) (hn : n ≤ n') : OM P k e w b n' f := by obtain ⟨hw, D, h, v⟩ := h; exact ⟨hw, D, h.mono hn, v⟩
theorem VM.mono {w : World} {v : Value} {n n' : Nat} {f : Lit → Option Int} (h : VM P k e w v n f) (hn : n ≤ n') : VM P k e w v n' f := by
  rcases h with h | ⟨b, r, h⟩
  · exact .inl h
  · exact .inr ⟨b, r, h.mono hn⟩
theorem OM.kept {w w' : World} {b n : Nat} {f : Lit → Option Int} {row : Option Nat} (h : OM P k e w b n f) (hg : w.grownBy w' row) (hne : some b ≠ row) : OM P k e w' b n f := by
  obtain ⟨hw, D, h, v⟩ := h; exact ⟨hw, D, h.kept hg hne, v⟩
theorem owns_block {H : Type} {R : Value → Option (DataW H × List MemPlace)} {w w' : World} {b n : Nat} {D : DataW H} (h : w.ownsMap P k R b n D) (hb : w'.heap[b]? = w.heap[b]?) : w'.ownsMap P k R b n D := by
  obtain ⟨es, clock, h1, r⟩ := h; exact ⟨es, clock, hb.trans h1, r⟩
theorem OM.block {w w' : World} {b n : Nat} {f : Lit → Option Int} (h : OM P k e w b n f) (hb : w'.heap[b]? = w.heap[b]?) : OM P k e w' b n f := by
  obtain ⟨hw, D, h, v⟩ := h; exact ⟨hw, D, owns_block h hb, v⟩
theorem OM.below {w w' : World} {b n B : Nat} {f : Lit → Option Int} (h : OM P k e w b n f) (hb : Below B w w') (hB : b < B) : OM P k e w' b n f := h.block (hb.block b hB)
theorem VM.below {w w' : World} {v : Value} {n : Nat} {f : Lit → Option Int} (h : VM P k e w v n f) (hb : Below w.heap.size w w') : VM P k e w' v n f := by
  rcases h with h | ⟨b, r, h⟩
  · exact .inl h
  · exact .inr ⟨b, r, h.below hb h.lt⟩
theorem VM.kept {w w' : World} {v : Value} {n : Nat} {f : Lit → Option Int} {row : Option Nat} (h : VM P k e w v n f) (hg : w.grownBy w' row) (hne : ∀ b, row = some b → v ≠ .map (some b)) : VM P k e w' v n f := by
  rcases h with h | ⟨b, rfl, h⟩
  · exact .inl h
  · exact .inr ⟨b, rfl, h.kept hg (fun e => hne b e.symm rfl)⟩
theorem om_made (P : Program) (k e : TypeId) (w : World) : OM P k e (w.alloc (.map #[] 0)) w.heap.size 0 noneF := ⟨wf_none, .map [], World.ownsMap_made _ _ _ _, vw_empty⟩

/-- the key of a string -/
def kS (s : ByteArray) : Lit := .string s.data.toList
theorem key_kS (s : ByteArray) : WideAt.IsKeyLit (kS s) := trivial

theorem str_inv (hk : P.underlying k = some .string) {key : Value} {kl : Lit} (h : keyOf P k key = some kl) : ∃ s : ByteArray, key = .string s ∧ kl = kS s ∧ s.size ≤ maxLen := by
  cases key <;> simp [keyOf, hk, mapKey] at h
  obtain ⟨h1, rfl⟩ := h
  exact ⟨_, rfl, rfl, h1⟩

/-- 'm[k]'. -/
theorem VM.look {t : TypeId} {w : World} {v : Value} {n : Nat} {f : Lit → Option Int} (h : VM P k e w v n f) (hk : P.underlying k = some .string) (he : P.underlying e = some (.int .u64)) (ht : P.underlying t = some (.map k e)) (hz : (zeroValue e).run P w = .ok (.int .u64 0) w)
    {s : ByteArray} (hs : s.size ≤ maxLen) : (Instr.lookup t v (.string s) false).run P w = .ok (.int .u64 (at0 f (kS s))) w := by
  have hkey := keyOf_string_mk hk hs
  rcases h with ⟨rfl, rfl⟩ | ⟨b, rfl, _, D, h, hv⟩
  · exact look_nil false (string_keyed hk) ht hz hkey
  · obtain ⟨c, hrun, hat, _⟩ := h.lookup_int (string_keyed hk) ht he hz hkey
    rw [hrun]
    rw [hv.2] at hat
    unfold at0 kS
    cases hf : f (.string s.data.toList) with
    | none => rw [hf] at hat; cases hat; rfl
    | some d => rw [hf] at hat; cases hat; rfl

/-- 'v, ok := m[k]'. -/
theorem OM.look_ok {t : TypeId} {w : World} {b : Nat} {n : Nat} {f : Lit → Option Int} (h : OM P k e w b n f) (hk : P.underlying k = some .string) (he : P.underlying e = some (.int .u64)) (ht : P.underlying t = some (.map k e)) (hz : (zeroValue e).run P w = .ok (.int .u64 0) w)
    {s : ByteArray} (hs : s.size ≤ maxLen) : (Instr.lookup t (.map (some b)) (.string s) true).run P w = .ok (.tuple #[.int .u64 (at0 f (kS s)), .bool (f (kS s)).isSome]) w := by
  have hkey := keyOf_string_mk hk hs
  obtain ⟨_, D, h, hv⟩ := h
  obtain ⟨v, ps, hrun, hat⟩ := h.look_ok (string_keyed hk) ht hz (plainElem_int he (by decide)) hkey
  obtain ⟨c, rfl, hc, _⟩ := plainElem_int_inv he hat
  simp only [Prod.mk.injEq] at hc
  have hc1 := hc.1
  rw [hv.2] at hc1
  rw [hrun, vw_has hv]
  unfold at0 kS
  cases hf : f (.string s.data.toList) with
  | none => rw [hf] at hc1; cases hc1; rfl
  | some d => rw [hf] at hc1; cases hc1; rfl

/-- 'm[k] = c' AT THE OPERATION. -/
theorem wpList_put (w : World) {ops : Array Oper} {rest : List Oper} {o : Oper} {a : Act} {Q : Exit → Act → World → Prop} (hg : o.guard = none) (m x v : Operand) (t : TypeId) (hop : o.op = Op.mapUpdate t m x v)
    (hk : P.underlying k = some .string) (he : P.underlying e = some (.int .u64)) (ht : P.underlying t = some (.map k e)) (b n : Nat) (f : Lit → Option Int) (hm : a.eval m = .map (some b)) (hown : OM P k e w b n f) (hn : n < maxLen)
    (s : ByteArray) (c : Int) (hx : a.eval x = .string s) (hv : a.eval v = .int .u64 c) (hs : s.size ≤ maxLen) (hc0 : 0 ≤ c) (hc1 : c ≤ 18446744073709551615)
    (hK : ∀ w', OM P k e w' b (n + 1) (upd f (kS s) c) → w.grownBy w' (some b) → wpList P ops Q rest (a.put o.dst undef) w') : wpList P ops Q (o :: rest) a w := by
  obtain ⟨hw, D, hD, hV⟩ := hown
  exact wpList_mapUpdate_own w hg m x v t hop k e (string_keyed hk) ht (plainElem P e) b n D hm hD hn _ _ _ hx hv (keyOf_string_mk hk hs) _ [] (plainElem_int he (wf_u64 hc0 hc1))
    (fun w' h1 h2 => hK w' ⟨wf_upd hw hc0 hc1, _, h1, vw_put hV (key_kS s) c⟩ h2)

/-! ### ranging -/
/-- THE LOOP OVER v, WHICH IS f, UNDER WAY: its iterator is block r; 'left': which keys are still to come. -/
def RG (P : Program) (k e : TypeId) (w : World) (v : Value) (r n : Nat) (f : Lit → Option Int) (left : Lit → Bool) (cnt : Nat) : Prop :=
  (v = .map none ∧ f = noneF ∧ (∀ x, left x = false) ∧ cnt = 0 ∧ w.heap[r]? = some (.mapIter none 0 #[] 0)) ∨
  ∃ b, v = .map (some b) ∧ WfF f ∧ ∃ D : DataW Unit, Vw D f ∧ w.ranges P k (plainElem P e) b r n D left cnt
def leftN (w : World) (v : Value) (r : Nat) : Nat := match v with | .map (some b) => w.rangeLeft b r | _ => 0

theorem RG.left_eq {w : World} {v : Value} {r n : Nat} {f : Lit → Option Int} {left : Lit → Bool} {cnt : Nat} (h : RG P k e w v r n f left cnt) : leftN w v r = cnt := by
  rcases h with ⟨rfl, _, _, rfl, _⟩ | ⟨b, rfl, _, D, _, h⟩
  · rfl
  · exact h.left_eq
theorem RG.lt {w : World} {v : Value} {r n : Nat} {f : Lit → Option Int} {left : Lit → Bool} {cnt : Nat} (h : RG P k e w v r n f left cnt) : r < w.heap.size := by
  rcases h with ⟨rfl, _, _, rfl, h⟩ | ⟨b, rfl, _, D, _, h⟩
  · exact (Array.getElem?_eq_some_iff.1 h).1
  · exact h.lt
theorem RG.kept {w w' : World} {v : Value} {r n : Nat} {f : Lit → Option Int} {left : Lit → Bool} {cnt : Nat} {row : Option Nat} (h : RG P k e w v r n f left cnt) (hg : w.grownBy w' row) (hv : ∀ b, row = some b → v ≠ .map (some b)) (hr : some r ≠ row) : RG P k e w' v r n f left cnt := by
  have hlt := h.lt
  rcases h with ⟨rfl, h1, h2, h3, h⟩ | ⟨b, rfl, hw, D, hV, h⟩
  · exact .inl ⟨rfl, h1, h2, h3, (hg.block r hlt hr).trans h⟩
  · exact .inr ⟨b, rfl, hw, D, hV, h.kept hg (fun e => hv b e.symm rfl) hr⟩
theorem RG.has {w : World} {v : Value} {r n : Nat} {f : Lit → Option Int} {left : Lit → Bool} {cnt : Nat} (h : RG P k e w v r n f left cnt) : WfF f := by
  rcases h with ⟨rfl, rfl, _⟩ | ⟨b, rfl, hw, _⟩
  · exact wf_none
  · exact hw

/-- 'range m' AT THE OPERATION. -/
theorem wpList_rangeV (w : World) {ops : Array Oper} {rest : List Oper} {o : Oper} {a : Act} {Q : Exit → Act → World → Prop} (hg : o.guard = none) (m : Operand) (t : TypeId) (hop : o.op = Op.range t m) (hk : P.underlying k = some .string) (ht : P.underlying t = some (.map k e))
    (v : Value) (n : Nat) (f : Lit → Option Int) (hm : a.eval m = v) (hv : VM P k e w v n f)
    (hK : ∀ w' cnt, RG P k e w' v w.heap.size n f (fun x => (f x).isSome) cnt → cnt ≤ n → w.grownBy w' none → w'.heap.size = w.heap.size + 1 → wpList P ops Q rest (a.put o.dst (.pointer (some ⟨w.heap.size, 0, none⟩))) w') : wpList P ops Q (o :: rest) a w := by
  rcases hv with ⟨rfl, rfl⟩ | ⟨b, rfl, hw, D, hD, hV⟩
  · refine wpList_plain hg fun K' hK' => ?_
    have hrun := run_range_nilMap (P := P) w t k e ht
    unfold Oper.wp
    simp [execOp, hop, hm, hrun, Result.andThen]
    exact hK' _ _ (hK _ 0 (.inl ⟨rfl, rfl, fun _ => rfl, rfl, (MapKept.heap_alloc w _).1⟩) (Nat.zero_le _) (World.grownBy_alloc w _ none) (by simp))
  · refine wpList_range_own w hg m t hop k e (string_keyed hk) ht (plainElem P e) b n D hm hD fun w' h1 h2 h3 => ?_
    have e1 : Maps.has D = fun x => (f x).isSome := funext (vw_has hV)
    rw [e1] at h1
    exact hK w' _ (.inr ⟨b, rfl, hw, D, hV, h1⟩) hD.size_le h2 h3

/-- THE STEP AT THE OPERATION. -/
theorem wpList_nextV (w : World) {ops : Array Oper} {rest : List Oper} {o : Oper} {a : Act} {Q : Exit → Act → World → Prop} (hg : o.guard = none) (it : Operand) (hop : o.op = Op.next it false) (hk : P.underlying k = some .string) (he : P.underlying e = some (.int .u64))
    (v : Value) (r n : Nat) (f : Lit → Option Int) (left : Lit → Bool) (cnt : Nat) (hit : a.eval it = .pointer (some ⟨r, 0, none⟩)) (h : RG P k e w v r n f left cnt)
    (hDone : cnt = 0 → (∀ kl, left kl = false) → wpList P ops Q rest (a.put o.dst (.tuple #[.bool false])) w)
    (hMore : ∀ (s : ByteArray) (c : Int) (w' : World) (cnt' : Nat), s.size ≤ maxLen → 0 ≤ c → c ≤ 18446744073709551615 → left (kS s) = true → f (kS s) = some c → RG P k e w' v r n f (fun z => left z && !z.sameKey (kS s)) cnt' → cnt' < cnt →
      w.grownBy w' (some r) → w'.heap.size = w.heap.size → (Instr.entry (.pointer (some ⟨r, 0, none⟩))).run P w' = .ok (.tuple #[.string s, .int .u64 c]) w' → wpList P ops Q rest (a.put o.dst (.tuple #[.bool true, .string s, .int .u64 c])) w') :
    wpList P ops Q (o :: rest) a w := by
  rcases h with ⟨rfl, rfl, h1, h2, h3⟩ | ⟨b, rfl, hw, D, hV, h⟩
  · refine wpList_plain hg fun K' hK' => ?_
    have hrun : (Instr.next (.pointer (some ⟨r, 0, none⟩)) false o.type).run P w = .ok (.tuple #[.bool false]) w := by
      simp only [Instr.next, getObj, Sem.run_bind, Sem.run, h3, Result.andThen]
      rfl
    unfold Oper.wp
    simp [execOp, hop, hit, hrun, Result.andThen]
    exact hK' _ _ (hDone h2 h1)
  · refine wpList_next_ranges w hg it hop k (string_keyed hk) (plainElem P e) Value.string (Value.int .u64) (fun key kl hkey => by obtain ⟨x, rfl, _⟩ := str_inv hk hkey; exact ⟨x, rfl⟩) (fun v y hv => by obtain ⟨c, rfl, _⟩ := plainElem_int_inv he hv; exact ⟨c, rfl⟩)
      b r n D left cnt hit h hDone (fun x c kl y w' cnt' hkey hlk hv hat hrg hlt hgr hsz hen => ?_)
    obtain ⟨s, ex, rfl, hs⟩ := str_inv hk hkey
    cases ex
    obtain ⟨c', ec, rfl, hwc⟩ := plainElem_int_inv he hv
    cases ec
    obtain ⟨g0, g1⟩ := u64_wf hwc
    refine hMore x c w' cnt' hs g0 g1 hlk ?_ (.inr ⟨b, rfl, hw, D, hV, hrg⟩) hlt hgr hsz hen
    have h5 := hat .nil
    rw [hV.2] at h5
    cases hf : f (kS x) with
    | none => rw [hf] at h5; cases h5
    | some d => rw [hf] at h5; cases h5; rfl
end
end Go.Proofs.Qxb6003611a
