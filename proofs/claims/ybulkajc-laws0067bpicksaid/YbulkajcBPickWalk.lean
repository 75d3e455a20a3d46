/-
  OUR OWN: THE WALK OF 'LawS0067BPick' (function 3).
-/
import Derived.Test.YbulkajcProg
import Derived.WalkKit
import Derived.WalkSpells
import Derived.WalkLawsBesides
import Derived.Laws.Pointers
namespace Go.Proofs.Ybulkajc
open Go.RowKit

/-- Two structs of the same two bools are not unlike. -/
theorem ne24 (a b : Bool) (w : World) : (binOp .neq 24 (.agg #[.bool a, .bool b]) (.agg #[.bool a, .bool b])).run Yba.prog w = .ok (.bool false) w := by
  cases a <;> cases b <;> kernel_rfl

set_option maxHeartbeats 400000 in
theorem ahead_high (b : Nat) (o x : Bool) (w : World) (h0 : w.cell? ⟨b, 18, none⟩ = some (.bool o)) (h1 : w.cell? ⟨b, 19, none⟩ = some (.bool x)) (hb : b < w.heap.size) :
    Calls Yba.prog 4 #[.pointer (some ⟨b, 0, none⟩), .bool true] w fun e w' => e = .returned (.agg #[.bool o, .bool x]) ∧ w' = w.alloc (.cells #[.bool o, .bool x] 24) := by
  have k0 : ∀ ob, (w.alloc ob).cell? ⟨b, 18, none⟩ = some (.bool o) := fun ob => ((Below.refl _ _).alloc (Nat.le_refl _) ob).cell (p := ⟨b, 18, none⟩) hb |>.trans h0
  have k1 : ∀ ob, (w.alloc ob).cell? ⟨b, 19, none⟩ = some (.bool x) := fun ob => ((Below.refl _ _).alloc (Nat.le_refl _) ob).cell (p := ⟨b, 19, none⟩) hb |>.trans h1
  go_enter Yba.func4, Yba.ntmps4
  go_wp2
  refine bodyPost_ret (v := .agg #[.bool o, .bool x]) (by simp [results, Yba.results4, go_sem]) rfl ⟨rfl, rfl⟩

set_option maxHeartbeats 400000 in
theorem ahead_low (b : Nat) (o x : Bool) (w : World) (h0 : w.cell? ⟨b, 16, none⟩ = some (.bool o)) (h1 : w.cell? ⟨b, 17, none⟩ = some (.bool x)) (hb : b < w.heap.size) :
    Calls Yba.prog 4 #[.pointer (some ⟨b, 0, none⟩), .bool false] w fun e w' => e = .returned (.agg #[.bool o, .bool x]) ∧ w' = w.alloc (.cells #[.bool o, .bool x] 24) := by
  have k0 : ∀ ob, (w.alloc ob).cell? ⟨b, 16, none⟩ = some (.bool o) := fun ob => ((Below.refl _ _).alloc (Nat.le_refl _) ob).cell (p := ⟨b, 16, none⟩) hb |>.trans h0
  have k1 : ∀ ob, (w.alloc ob).cell? ⟨b, 17, none⟩ = some (.bool x) := fun ob => ((Below.refl _ _).alloc (Nat.le_refl _) ob).cell (p := ⟨b, 17, none⟩) hb |>.trans h1
  go_enter Yba.func4, Yba.ntmps4
  go_wp2
  refine bodyPost_ret (v := .agg #[.bool o, .bool x]) (by simp [results, Yba.results4, go_sem]) rfl ⟨rfl, rfl⟩

set_option maxRecDepth 100000 in
set_option maxHeartbeats 1000000 in
theorem pick_walk (a0 : Bool) (a1 : Bool) (a2 : Bool) (a3 : Bool) (a4 : Bool) (a5 : Bool) (w : World) :
    Calls Yba.prog 3 #[.bool a0, .bool a1, .bool a2, .bool a3, .bool a4, .bool a5] w fun e w' => e = .returned (.bool true) ∧ Below w.heap.size w w' := by
  have n24 := ne24
  have e5 : (a5 == a5) = true := by simp
  cases a0
  · go_enter Yba.func3, Yba.ntmps3
    go_wp2_with (go_at_call 4; refine (ahead_low w.heap.size a1 a2 _ (by simp) (by simp) (by simp)).mono ?_; rintro e w1 ⟨rfl, rfl⟩)
    go_ret
    exact ⟨rfl, (((Below.refl _ _).alloc (Nat.le_refl _) _).alloc (by simp) _ |>.alloc (by simp; omega) _).alloc (by simp; omega) _⟩
  · go_enter Yba.func3, Yba.ntmps3
    go_wp2_with (go_at_call 4; refine (ahead_high w.heap.size a3 a4 _ (by simp) (by simp) (by simp)).mono ?_; rintro e w1 ⟨rfl, rfl⟩)
    go_ret
    exact ⟨rfl, (((Below.refl _ _).alloc (Nat.le_refl _) _).alloc (by simp) _ |>.alloc (by simp; omega) _).alloc (by simp; omega) _⟩
end Go.Proofs.Ybulkajc
