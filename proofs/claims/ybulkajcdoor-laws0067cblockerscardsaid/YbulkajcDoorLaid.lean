/-
  OUR OWN: what the row's condition on the listed variables gives the walk: the table.
-/
import Derived.Test.YbulkajcDoorRows
import Derived.Test.YbulkajcDoorLawA
import Derived.ProofKit
import Derived.LaidMore
import Derived.OpenShut
import Derived.OpenVars
import Derived.Stop.Joined
namespace Go.Proofs.YbulkajcDoor
open Go.ChangeShapes Go.WideShapes Go.ChangeAt Go.RowKit

theorem gCompat : Ybad.prog.globalNamed ((Rows.lawS0067CBlockersRow.laid.map (·.1)).headD default) = some 4 := by kernel_rfl
theorem tCompat : (Ybad.prog.globals[4]?).map (·.type) = some 175 := by kernel_rfl
theorem cells174 : Ybad.prog.cellsOf 174 = 5 := by kernel_rfl
theorem cells4 : Ybad.prog.cellsOf 4 = 1 := by kernel_rfl

theorem row_bools {H : Type} {enc : TypeId × Value → H} {W : World} {base : Nat} {sp : Nat → Bool} {held : Bool} {n : Nat} {cs : List Value} {x : DataW H × List MemPlace} {f : Nat → Bool}
    (h : DataW.trod enc Ybad.prog W base sp held n 174 cs = some x) (hx : x.1 = .agg ((List.range 5).map fun r => .lit (.bool (f r)))) : ∀ r, r < 5 → cs[r]? = some (.bool (f r)) := by
  obtain ⟨xs, m, rfl, rfl, hlen, hn, hel⟩ := DataW.trod_array Ybad.underlying174 h
  intro r hr
  have hxs : (xs.map (·.1))[r]? = some (.lit (.bool (f r))) := by
    have : xs.map (·.1) = (List.range 5).map fun r => .lit (.bool (f r)) := by simpa using hx
    rw [this]
    simp [hr]
  have h1 := hel r hr
  cases hx2 : xs[r]? with
  | none => simp [hx2] at hxs
  | some y =>
    rw [hx2] at h1
    obtain ⟨b, e1, e2⟩ := DataW.trod_bool Ybad.underlying4 h1
    rw [List.getElem?_map, hx2] at hxs
    simp [e2] at hxs
    subst hxs
    rw [cells4, Nat.mul_one] at e1
    have : ((cs.drop r).take 1)[0]? = some (.bool (f r)) := by rw [e1]; rfl
    rw [List.getElem?_take_of_lt (by omega), List.getElem?_drop] at this
    simpa using this

theorem table_bools {H : Type} {enc : TypeId × Value → H} {W : World} {base : Nat} {sp : Nat → Bool} {held : Bool} {n : Nat} {cs : List Value} {x : DataW H × List MemPlace} {f : Nat → Nat → Bool}
    (h : DataW.trod enc Ybad.prog W base sp held n 175 cs = some x) (hx : x.1 = .agg ((List.range 5).map fun l => .agg ((List.range 5).map fun r => .lit (.bool (f l r))))) : ∀ l r, l < 5 → r < 5 → cs[l * 5 + r]? = some (.bool (f l r)) := by
  obtain ⟨xs, m, rfl, rfl, hlen, hn, hel⟩ := DataW.trod_array Ybad.underlying175 h
  intro l r hl hr
  have hxs : (xs.map (·.1))[l]? = some (.agg ((List.range 5).map fun r => .lit (.bool (f l r)))) := by
    have : xs.map (·.1) = (List.range 5).map fun l => .agg ((List.range 5).map fun r => .lit (.bool (f l r))) := by simpa using hx
    rw [this]
    simp [hl]
  have h1 := hel l hl
  cases hx2 : xs[l]? with
  | none => simp [hx2] at hxs
  | some y =>
    rw [hx2] at h1
    rw [List.getElem?_map, hx2] at hxs
    have hy : y.1 = .agg ((List.range 5).map fun r => .lit (.bool (f l r))) := by simpa using hxs
    have h2 := row_bools h1 hy r hr
    rw [cells174, List.getElem?_take_of_lt hr, List.getElem?_drop] at h2
    exact h2

theorem datum_compat : (Rows.laid_example_com_keyfence_keyfence_modesCompatible : DataW Unit) = .agg ((List.range 5).map fun l : Nat => .agg ((List.range 5).map fun r : Nat => .lit (.bool (Plain.compat (l : Int) (r : Int))))) := by kernel_rfl

/-- WHAT THE CONDITION GIVES THE WALK. -/
theorem table_of_laid {W : World} (h : laidMetH Ybad.prog Rows.lawS0067CBlockersRow.laid W) : Table W := by
  rw [MakeChecks.laidMetH_plain _ _ _ (by kernel_rfl)] at h
  obtain ⟨ps, ⟨g0, t0, cs0, f0, p0, q0, hg0, ht0, hv0, hd0, _, _⟩, _, _⟩ := h
  obtain rfl := Option.some.inj (gCompat.symm.trans hg0)
  obtain rfl := Option.some.inj (tCompat.symm.trans ht0)
  intro l r hl hr
  rw [World.var?_cell hg0 hv0, ← Array.getElem?_toList]
  exact table_bools (f := fun l r => Plain.compat (l : Int) (r : Int)) hd0 datum_compat l r hl hr
end Go.Proofs.YbulkajcDoor
