/-
  OUR OWN: a lock in memory; what the functions that look at two locks answer.
-/
import Derived.Test.YbulkajcDoorPure
import Derived.BigQuiet
import Derived.Deep.QuietTactic
import Derived.Lib.Builder
namespace Go.Proofs.YbulkajcDoor
open Go.RowKit

/-- Block b is a lock: of the transaction at block t, on a table or a row, of mode m and kind k, on a row of heap number h; withdrawn or not. -/
structure LockAt (w : World) (b t : Nat) (tab : Bool) (m k h : Int) (wd : Bool) : Prop where
  trx : w.cell? ⟨b, 0, none⟩ = some (.pointer (some ⟨t, 0, none⟩))
  space : w.cell? ⟨b, 2, none⟩ = some (.int .u32 0)
  page : w.cell? ⟨b, 3, none⟩ = some (.int .u32 0)
  heap : w.cell? ⟨b, 4, none⟩ = some (.int .u16 h)
  onTable : w.cell? ⟨b, 5, none⟩ = some (.bool tab)
  mode : w.cell? ⟨b, 6, none⟩ = some (.int .u8 m)
  kind : w.cell? ⟨b, 7, none⟩ = some (.int .u8 k)
  waited : (wd = false ∧ w.cell? ⟨b, 10, none⟩ = some (.pointer none)) ∨ (wd = true ∧ ∃ g, w.cell? ⟨b, 10, none⟩ = some (.pointer (some ⟨g, 0, none⟩)) ∧ w.cell? ⟨g, 3, none⟩ = some (.bool true))

/-- The variable 'modesCompatible' holds the table. -/
def Table (w : World) : Prop := ∀ l r : Nat, l < 5 → r < 5 → w.cell? ⟨4, l * 5 + r, none⟩ = some (.bool (Plain.compat l r))

theorem waits_row {rm lm : Int} (rk lk h : Int) (hx : ¬ (rm = 2 ∧ lm = 2)) : Plain.waits false rm rk lm lk h =
    if rk ≠ 3 ∧ (rk = 2 ∨ h = 1) then false else if rk ≠ 3 ∧ 2 ≤ lk then false else if rk = 3 ∧ lk = 1 then false else if lk = 3 then false else true := by
  unfold Plain.waits
  rw [if_neg (by simp), if_neg hx]

set_option maxHeartbeats 1000000 in
theorem classOf_any (rb lb rt lt : Nat) (tab rw' lw : Bool) (rm rk lm lk h : Int) (w : World) (hr : LockAt w rb rt tab rm rk h rw') (hl : LockAt w lb lt tab lm lk h lw) (hT : Table w)
    (m1 : 0 ≤ rm) (m2 : rm < 5) (m3 : 0 ≤ lm) (m4 : lm < 5) (hrow : tab = false → (rm = 2 ∨ rm = 3) ∧ (lm = 2 ∨ lm = 3)) (k2 : lk ≤ 3) :
    Calls Ybad.prog 50 #[.pointer (some ⟨rb, 0, none⟩), .pointer (some ⟨lb, 0, none⟩)] w fun e w' => e = .returned (.bool (Plain.waits tab rm rk lm lk h)) ∧ ∃ n, w' = w.drewN n := by
  have r4 := hr.heap; have r5 := hr.onTable; have r6 := hr.mode; have r7 := hr.kind
  have l6 := hl.mode; have l7 := hl.kind
  clear hr hl
  have ht := hT lm.toNat rm.toNat (by omega) (by omega)
  rw [show ((lm.toNat : Nat) : Int) = lm by omega, show ((rm.toNat : Nat) : Int) = rm by omega] at ht
  clear hT
  cases tab with
  | true =>
    clear hrow
    cases hc : Plain.compat lm rm
    all_goals
      rw [hc] at ht
      have HC : Hid (Plain.compat lm rm = _) := hc
      clear hc
      go_enter Ybad.func50, Ybad.ntmps50
      go_wp2_with fail
      go_quiet (fail)
      go_wp2
      go_ret
      exact ⟨ret_bool (by simp [Plain.waits, HC.out]), _, rfl⟩
  | false =>
    obtain ⟨hr2, hl2⟩ := hrow rfl
    by_cases h22 : rm = 2 ∧ lm = 2
    · have hc : Plain.compat lm rm = true := by rw [h22.1, h22.2]; rfl
      rw [hc] at ht
      have HX : Hid (rm = 2 ∧ lm = 2) := h22
      clear hc h22 hrow hr2 hl2
      go_enter Ybad.func50, Ybad.ntmps50
      go_wp2_with fail
      go_quiet (fail)
      go_wp2
      go_ret
      exact ⟨ret_bool (by simp [Plain.waits, HX.out]), _, rfl⟩
    · have hc : Plain.compat lm rm = false := by
        rcases hl2 with rfl | rfl
        · rcases hr2 with rfl | rfl
          · exact absurd ⟨rfl, rfl⟩ h22
          · rfl
        · rfl
      rw [hc] at ht
      have HX : Hid (¬ (rm = 2 ∧ lm = 2)) := h22
      clear hc h22 hrow hr2 hl2
      go_enter Ybad.func50, Ybad.ntmps50
      go_wp2_with fail
      go_quiet (fail)
      go_wp2_with (go_at_call 56; refine (inGap_any _ _).mono ?_; rintro e w1 ⟨rfl, rfl⟩)
      all_goals (go_ret; refine ⟨ret_bool ?_, _, rfl⟩; clear r4 r5 r6 r7 l6 l7 ht; rw [waits_row rk lk h HX.out]; first | (simp_all; done) | (simp_all; omega))
end Go.Proofs.YbulkajcDoor
