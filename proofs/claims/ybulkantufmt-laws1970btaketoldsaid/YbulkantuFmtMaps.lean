/-
  DERIVED. THE TWO MAPS, keyed by the three devices' names; an element is handed on as the value that it is.
-/
import Derived.Test.YbulkantuFmtWalks0
import Derived.Maps.OwnSet
namespace Go.Proofs.YbulkantuFmt
open Go.RowKit Go.ChangeMaps Go.MapKept Go.WideMaps

/-- An element reads as itself. -/
def heldE (v : Value) : Option (DataW Value × List MemPlace) := some (.held v, [])
def keyL (i : Nat) : Lit := .string (nm i).data.toList
theorem nm_size (i : Nat) : (nm i).size ≤ maxLen := by
  unfold maxLen nm
  split <;> decide
theorem key_of (i : Nat) : keyOf Ybaf.prog 9 (.string (nm i)) = some (keyL i) := keyOf_string_mk Ybaf.underlying9 (nm_size i)
theorem keyed9 : Maps.Keyed Ybaf.prog 9 := Maps.string_keyed Ybaf.underlying9
theorem keyL_ne {i j : Nat} (hi : i < 3) (hj : j < 3) (h : i ≠ j) : keyL i ≠ keyL j := by
  rcases (show i = 0 ∨ i = 1 ∨ i = 2 by omega) with rfl | rfl | rfl <;> rcases (show j = 0 ∨ j = 1 ∨ j = 2 by omega) with rfl | rfl | rfl <;> first | exact absurd rfl h | (intro e; simp [keyL, nm] at e)

theorem tight {w : World} {b n : Nat} {D : DataW Value} (h : w.ownsMap Ybaf.prog 9 heldE b n D) : w.ownsMap Ybaf.prog 9 heldE b (Maps.size D) D := by
  obtain ⟨es, clock, hb, F, _, rfl⟩ := h
  exact ⟨es, clock, hb, F, by simp [Maps.size, length_sorted], rfl⟩

/-- The value at i turned. -/
def upd {α : Type} (f : Nat → α) (i : Nat) (v : α) : Nat → α := fun j => if j = i then v else f j
theorem upd_same {α : Type} (f : Nat → α) (i : Nat) (v : α) : upd f i v i = v := if_pos rfl
theorem upd_other {α : Type} (f : Nat → α) {i j : Nat} (v : α) (h : j ≠ i) : upd f i v j = f j := if_neg h

/-- BLOCK b IS A MAP: 'h i': is there an entry of device i? 'f i': what stands there (else the zero z). -/
structure MapIs (W : World) (b : Nat) (z : Value) (h : Nat → Bool) (f : Nat → Value) : Prop where
  own : ∃ D, W.ownsMap Ybaf.prog 9 heldE b 3 D ∧ (∀ i, i < 3 → Maps.has D (keyL i) = h i ∧ D.atKey (keyL i) (.held z) = .held (f i)) ∧ Maps.size D = (h 0).toNat + (h 1).toNat + (h 2).toNat

theorem MapIs.made (W : World) (z : Value) : MapIs (W.alloc (.map #[] 0)) W.heap.size z (fun _ => false) (fun _ => z) :=
  ⟨_, (World.ownsMap_made W Ybaf.prog 9 heldE).mono (by omega), fun _ _ => ⟨rfl, rfl⟩, rfl⟩

theorem MapIs.lt {W : World} {b : Nat} {z : Value} {h : Nat → Bool} {f : Nat → Value} (m : MapIs W b z h f) : b < W.heap.size := by
  obtain ⟨D, ho, _⟩ := m.own
  exact ho.lt

theorem MapIs.kept {W W' : World} {b : Nat} {z : Value} {h : Nat → Bool} {f : Nat → Value} (m : MapIs W b z h f) (hb : W'.heap[b]? = W.heap[b]?) : MapIs W' b z h f := by
  obtain ⟨D, ⟨es, clock, h1, h2⟩, r⟩ := m.own
  exact ⟨D, ⟨es, clock, hb.trans h1, h2⟩, r⟩

theorem MapIs.look {W : World} {b : Nat} {z : Value} {h : Nat → Bool} {f : Nat → Value} (m : MapIs W b z h f) {i : Nat} (hi : i < 3) {t e : TypeId} (ht : Ybaf.prog.underlying t = some (.map 9 e)) (hz : (zeroValue e).run Ybaf.prog W = .ok z W) :
    (Instr.lookup t (.map (some b)) (.string (nm i)) true).run Ybaf.prog W = .ok (.tuple #[f i, .bool (h i)]) W := by
  obtain ⟨D, ho, hr, _⟩ := m.own
  obtain ⟨v, ps, hrun, hv⟩ := ho.look_ok keyed9 ht hz (zd := .held z) (zp := []) rfl (key_of i)
  rw [(hr i hi).2, (hr i hi).1] at *
  simp only [heldE, Option.some.injEq, Prod.mk.injEq, DataW.held.injEq] at hv
  rw [hrun, hv.1]

theorem MapIs.len {W : World} {b : Nat} {z : Value} {h : Nat → Bool} {f : Nat → Value} (m : MapIs W b z h f) {t e : TypeId} (ht : Ybaf.prog.underlying t = some (.map 9 e)) (ty : TypeId) :
    (Builtin.len_ #[t] ty #[.map (some b)]).run Ybaf.prog W = .ok (.int .i64 (((h 0).toNat + (h 1).toNat + (h 2).toNat : Nat) : Int)) W := by
  obtain ⟨D, ho, _, hs⟩ := m.own
  rw [ho.len ht ty, hs]

theorem MapIs.store {W : World} {b : Nat} {z : Value} {h : Nat → Bool} {f : Nat → Value} (m : MapIs W b z h f) {i : Nat} (hi : i < 3) (v : Value) {t e : TypeId} (ht : Ybaf.prog.underlying t = some (.map 9 e)) :
    ∃ W', (Instr.mapUpdate t (.map (some b)) (.string (nm i)) v).run Ybaf.prog W = .ok () W' ∧ MapIs W' b z (upd h i true) (upd f i v) ∧ W.grownBy W' (some b) ∧ W'.heap.size = W.heap.size := by
  obtain ⟨D, ho, hr, hs⟩ := m.own
  obtain ⟨W', hrun, ho', hm⟩ := ho.store keyed9 ht (by unfold maxLen; omega) (key_of i) (d := .held v) (ps := []) rfl
  have hl : WideAt.IsKeyLit (keyL i) := True.intro
  have hsz : Maps.size (D.put (keyL i) (.held v)) = (upd h i true 0).toNat + (upd h i true 1).toNat + (upd h i true 2).toNat := by
    rw [Maps.size_put (ho.tidy keyed9), (hr i hi).1, hs]
    rcases (show i = 0 ∨ i = 1 ∨ i = 2 by omega) with rfl | rfl | rfl <;> simp [upd] <;> split <;> simp_all <;> omega
  refine ⟨W', hrun, ⟨_, (tight ho').mono ?_, fun j hj => ?_, hsz⟩, hm.grown, ?_⟩
  · rw [hsz]
    have := fun x : Bool => (show x.toNat ≤ 1 by cases x <;> decide)
    have h0 := this (upd h i true 0)
    have h1 := this (upd h i true 1)
    have h2 := this (upd h i true 2)
    omega
  · by_cases e : j = i
    · subst e
      rw [upd_same, upd_same]
      exact ⟨Maps.has_put_same ho.isMap hl _, Maps.atKey_put_same ho.isMap hl _ _⟩
    · rw [upd_other _ _ e, upd_other _ _ e, Maps.has_put_other (keyL_ne hj hi e), Maps.atKey_put_other (keyL_ne hj hi e)]
      exact hr j hj
  · obtain ⟨es, clock, es', clock', _, rfl⟩ := hm
    simp [setBlock]
end Go.Proofs.YbulkantuFmt
