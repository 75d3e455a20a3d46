/-
  OUR OWN: 'zzs0067ccompat' (28), 'zzs0067cwaits' (16), 'inGap' (56): they only compute.
-/
import Derived.Test.YbulkajcDoorProg
import Derived.Test.YbulkajcDoorPlain
import Derived.WalkKit
import Derived.WalkSpells
import Derived.WalkLawsBesides
import Derived.Laws.Pointers
namespace Go.Proofs.YbulkajcDoor
open Go.RowKit

theorem ret_bool {a b : Bool} (h : a = b) : Ending.returned (.bool a) = .returned (.bool b) := by rw [h]

set_option maxHeartbeats 1000000 in
theorem compat_any (l r : Int) (w : World) : Calls Ybad.prog 28 #[.int .u8 l, .int .u8 r] w fun e w' => e = .returned (.bool (Plain.compat l r)) ∧ w = w' := by
  go_enter Ybad.func28, Ybad.ntmps28
  go_wp2
  all_goals (go_ret; exact ⟨by simp_all [Plain.compat], rfl⟩)

set_option maxHeartbeats 1000000 in
theorem inGap_any (k : Int) (w : World) : Calls Ybad.prog 56 #[.int .u8 k] w fun e w' => e = .returned (.bool (k == 2 || k == 3)) ∧ w = w' := by
  go_enter Ybad.func56, Ybad.ntmps56
  go_wp2
  all_goals (go_ret; exact ⟨by simp_all, rfl⟩)

set_option maxHeartbeats 1000000 in
theorem waits_any (tab : Bool) (rm rk lm lk heap : Int) (w : World) : Calls Ybad.prog 16 #[.bool tab, .int .u8 rm, .int .u8 rk, .int .u8 lm, .int .u8 lk, .int .u16 heap] w fun e w' => e = .returned (.bool (Plain.waits tab rm rk lm lk heap)) ∧ w = w' := by
  cases tab
  · go_enter Ybad.func16, Ybad.ntmps16
    go_wp2
    all_goals (go_ret; refine ⟨ret_bool ?_, rfl⟩; first | (simp_all [Plain.waits]; done) | (simp_all [Plain.waits]; omega))
  · go_enter Ybad.func16, Ybad.ntmps16
    go_wp2_with (go_at_call 28; refine (compat_any _ _ _).mono ?_; rintro e w1 ⟨rfl, rfl⟩)
    go_ret
    exact ⟨by simp [Plain.waits], rfl⟩
end Go.Proofs.YbulkajcDoor
