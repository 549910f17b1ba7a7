/-
  DERIVED. take, ONE CONTRACT: it takes the line, or it refuses it and leaves all as it was.
-/
import Derived.Test.YbulkantuFmtAccA
import Derived.Test.YbulkantuFmtAccB
import Derived.Test.YbulkantuFmtAccC
import Derived.Test.YbulkantuFmtAccD
import Derived.Test.YbulkantuFmtAccE
import Derived.Test.YbulkantuFmtAccF
import Derived.Test.YbulkantuFmtAccG
import Derived.Test.YbulkantuFmtAccH
import Derived.Test.YbulkantuFmtTwice
import Derived.Test.YbulkantuFmtLow
namespace Go.Proofs.YbulkantuFmt
open Go.RowKit Go.Extern.Stop Go.Stop Go.Extern

def devNext (mi : Bool) (e : Dev) (seq stamp dig : Int) : Dev :=
  if stamp = 0 then { e with present := true, marks := if mi then e.marks else e.marks ++ [(seq, dig)] } else { present := true, stamp := stamp, seq := seq, dig := dig, marks := e.marks }
def lsNext (mi : Bool) (ls : Nat → Bool) (e : Dev) (i : Nat) : Nat → Bool := if !e.present && mi then upd ls i true else ls
def dnNext (i : Nat) (stamp : Int) : Option Nat := if stamp = 0 then some i else none
def mkNext (mk seq stamp : Int) : Int := if stamp = 0 then seq else mk
/-- Is the line taken? -/
def Taken (dn : Option Nat) (mk : Int) (e : Dev) (i : Nat) (seq stamp : Int) : Prop := (dn = none ∨ dn = some i ∧ mk < seq) ∧ (stamp = 0 ∨ e.stamp = 0)

theorem take_yes (W : World) (B : Nat) (mi : Bool) (ch : Int) (d : Nat → Dev) (ls : Nat → Bool) (cv : Nat → Value) (dn : Option Nat) (mk : Int) (i : Nat) (seq stamp dig : Int) (R : Rd W B mi ch d ls cv dn mk) (hi : i < 3) (ev : Value) (k0 : 0 ≤ dig) (k1 : dig ≤ 255)
    (hE : W.cell? ⟨0, 0, none⟩ = some ev) (hB0 : 0 < B) (hB : B + 5 ≤ W.heap.size) (hlen : (d i).marks.length ≤ 1024) (ht : Taken dn mk (d i) i seq stamp) :
    Calls Ybaf.prog 6 #[.pointer (some ⟨B + 3, 0, none⟩), .agg (lineCells i seq stamp dig)] W fun e w' => e = .returned .nilIface ∧ Accept W w' B mi ch d (lsNext mi ls (d i) i) cv (dnNext i stamp) (mkNext mk seq stamp) i (devNext mi (d i) seq stamp dig) := by
  obtain ⟨h1, h2⟩ := ht
  by_cases hz : stamp = 0
  · subst hz
    simp only [devNext, dnNext, mkNext, if_true]
    rcases h1 with rfl | ⟨rfl, hlt⟩
    · cases hp : (d i).present <;> cases mi
      · simpa [lsNext, hp] using acc_none_mark_first W B false ch d ls cv mk i seq dig R hi ev k0 k1 hE hB0 hB hp rfl hlen
      · simpa [lsNext, hp] using acc_none_mark_lined W B true ch d ls cv mk i seq dig R hi ev k0 k1 hE hB0 hB hp rfl
      · simpa [lsNext, hp] using acc_none_mark_plain W B false ch d ls cv mk i seq dig R hi ev k0 k1 hE hB0 hB hp rfl hlen
      · simpa [lsNext, hp] using acc_none_mark_kept W B true ch d ls cv mk i seq dig R hi ev k0 k1 hE hB0 hB hp rfl
    · cases hp : (d i).present <;> cases mi
      · simpa [lsNext, hp] using acc_some_mark_first W B false ch d ls cv mk i seq dig R hi ev k0 k1 hE hB0 hB hp rfl hlt hlen
      · simpa [lsNext, hp] using acc_some_mark_lined W B true ch d ls cv mk i seq dig R hi ev k0 k1 hE hB0 hB hp rfl hlt
      · simpa [lsNext, hp] using acc_some_mark_plain W B false ch d ls cv mk i seq dig R hi ev k0 k1 hE hB0 hB hp rfl hlt hlen
      · simpa [lsNext, hp] using acc_some_mark_kept W B true ch d ls cv mk i seq dig R hi ev k0 k1 hE hB0 hB hp rfl hlt
  · have hs : (d i).stamp = 0 := h2.resolve_left hz
    simp only [devNext, dnNext, mkNext, if_neg hz]
    rcases h1 with rfl | ⟨rfl, hlt⟩
    · cases hp : (d i).present <;> cases mi
      · simpa [lsNext, hp] using acc_none_cover_first W B false ch d ls cv mk i seq stamp dig R hi ev k0 k1 hE hB0 hB hp rfl hz hs
      · simpa [lsNext, hp] using acc_none_cover_lined W B true ch d ls cv mk i seq stamp dig R hi ev k0 k1 hE hB0 hB hp rfl hz hs
      · simpa [lsNext, hp] using acc_none_cover_plain W B false ch d ls cv mk i seq stamp dig R hi ev k0 k1 hE hB0 hB hp rfl hz hs
      · simpa [lsNext, hp] using acc_none_cover_kept W B true ch d ls cv mk i seq stamp dig R hi ev k0 k1 hE hB0 hB hp rfl hz hs
    · cases hp : (d i).present <;> cases mi
      · simpa [lsNext, hp] using acc_some_cover_first W B false ch d ls cv mk i seq stamp dig R hi ev k0 k1 hE hB0 hB hp rfl hlt hz hs
      · simpa [lsNext, hp] using acc_some_cover_lined W B true ch d ls cv mk i seq stamp dig R hi ev k0 k1 hE hB0 hB hp rfl hlt hz hs
      · simpa [lsNext, hp] using acc_some_cover_plain W B false ch d ls cv mk i seq stamp dig R hi ev k0 k1 hE hB0 hB hp rfl hlt hz hs
      · simpa [lsNext, hp] using acc_some_cover_kept W B true ch d ls cv mk i seq stamp dig R hi ev k0 k1 hE hB0 hB hp rfl hlt hz hs

theorem take_no (F : Interp) (W : World) (B : Nat) (mi : Bool) (ch : Int) (d : Nat → Dev) (ls : Nat → Bool) (cv : Nat → Value) (dn : Option Nat) (mk : Int) (i : Nat) (seq stamp dig : Int) (R : Rd W B mi ch d ls cv dn mk) (hF : F.answers W.tape) (hi : i < 3) (hdn : ∀ j, dn = some j → j < 3)
    (ht : ¬ Taken dn mk (d i) i seq stamp) :
    Calls Ybaf.prog 6 #[.pointer (some ⟨B + 3, 0, none⟩), .agg (lineCells i seq stamp dig)] W fun e w' => ∃ a, e = .returned (.iface 83 (.pointer (some a))) ∧ Below W.heap.size W w' := by
  cases dn with
  | none =>
    have h : stamp ≠ 0 ∧ (d i).stamp ≠ 0 := ⟨fun h => ht ⟨.inl rfl, .inl h⟩, fun h => ht ⟨.inl rfl, .inr h⟩⟩
    exact take_twice_none F W B mi ch d ls cv mk i seq stamp dig R hF hi h.1 h.2
  | some j =>
    by_cases hij : i = j
    · subst hij
      by_cases h0 : stamp ≠ 0 ∧ (d i).stamp ≠ 0
      · exact take_twice_some F W B mi ch d ls cv mk i seq stamp dig R hF hi h0.1 h0.2
      · have hst : stamp = 0 ∨ (d i).stamp = 0 := by
          by_cases h : stamp = 0
          · exact .inl h
          · exact .inr (Decidable.byContradiction fun h' => h0 ⟨h, h'⟩)
        have hle : seq ≤ mk := by
          by_cases h : mk < seq
          · exact absurd ⟨.inr ⟨rfl, h⟩, hst⟩ ht
          · omega
        by_cases h : stamp = 0
        · subst h
          exact take_low_zero F W B mi ch d ls cv mk i seq dig R hF hi hle
        · exact take_low_first F W B mi ch d ls cv mk i seq stamp dig R hF hi h (hst.resolve_left h) hle
    · exact take_away F W B mi ch d ls cv j mk i seq stamp dig R hF hi (hdn j rfl) hij
end Go.Proofs.YbulkantuFmt
