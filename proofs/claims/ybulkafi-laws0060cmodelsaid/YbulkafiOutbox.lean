/-
  OUR OWN: '(*Node).outbox' (function 10): the two contracts: a node that has an outbox; a node that has none.
-/
import Derived.Test.YbulkafiProg
import Derived.WalkKit
import Derived.WalkSpells
import Derived.WalkLawsBesides
import Derived.Maps.OwnSet
import Derived.Lib.Builder
import Derived.Laws.Pointers
namespace Go.Proofs.Ybulkafi
open Go.RowKit Go.Maps

theorem eq51 (a : Addr) (w : World) : (binOp .eql 51 (.pointer (some a)) (.pointer (some a))).run Yba.prog w = .ok (.bool true) w := by
  obtain ⟨j, hj⟩ : ∃ j, Yba.prog.info? 67 = some j := Option.isSome_iff_exists.1 (by kernel_rfl)
  exact run_eql_ptr_same w a Yba.underlying51 hj
theorem ne51 (a : Addr) (w : World) : (binOp .neq 51 (.pointer (some a)) (.pointer (some a))).run Yba.prog w = .ok (.bool false) w := by
  obtain ⟨j, hj⟩ : ∃ j, Yba.prog.info? 67 = some j := Option.isSome_iff_exists.1 (by kernel_rfl)
  exact Lib.run_neq_ptr_same w a Yba.underlying51 hj

/-- The node has an outbox already: that very one; nothing turns. -/
theorem outbox_kept (b : Nat) (p : Addr) (w : World) (hc : w.cell? ⟨b, 41, none⟩ = some (.pointer (some p))) :
    Calls Yba.prog 10 #[.pointer (some ⟨b, 0, none⟩)] w fun e w' => e = .returned (.pointer (some p)) ∧ w = w' := by
  go_enter Yba.func10, Yba.ntmps10
  go_wp2
  go_ret
  exact ⟨rfl, rfl⟩

/-- What a node at block b looks like behind its first 'outbox', B the heap's size ahead of it. -/
structure Fresh (b B : Nat) (w w' : World) : Prop where
  moving : w'.cell? ⟨b, 41, none⟩ = some (.pointer (some ⟨B + 1 + 1 + 1, 0, none⟩))
  made : w'.cell? ⟨B + 1 + 1 + 1, 0, none⟩ = some (.slice none 0 0)
  filling : w'.cell? ⟨B + 1 + 1 + 1, 1, none⟩ = some (.map (some B))
  waiting : w'.cell? ⟨B + 1 + 1 + 1, 2, none⟩ = some (.map (some (B + 1)))
  freed : w'.cell? ⟨B + 1 + 1 + 1, 3, none⟩ = some (.slice none 0 0)
  inFlight : w'.cell? ⟨B + 1 + 1 + 1, 4, none⟩ = some (.map (some (B + 1 + 1)))
  header : w'.cell? ⟨B + 1 + 1 + 1, 5, none⟩ = some (.slice none 0 0)
  m1 : w'.heap[B]? = some (.map #[] 0)
  m2 : w'.heap[B + 1]? = some (.map #[] 0)
  m3 : w'.heap[B + 1 + 1]? = some (.map #[] 0)
  size : w'.heap.size = B + 1 + 1 + 1 + 1
  below : Below b w w'

theorem heap_new (w : World) (o : Obj) : (w.alloc o).heap[w.heap.size]? = some o := by
  show (w.heap.push o)[w.heap.size]? = _
  simp

theorem fresh_of (b : Nat) (w : World) (v : Value) (hc : w.cell? ⟨b, 41, none⟩ = some v) (hb : b < w.heap.size) :
    Fresh b w.heap.size w (((((w.alloc (.map #[] 0)).alloc (.map #[] 0)).alloc (.map #[] 0)).alloc (.cells #[.slice none 0 0, .map (some w.heap.size), .map (some (w.heap.size + 1)), .slice none 0 0, .map (some (w.heap.size + 1 + 1)), .slice none 0 0] 67)).setCell
      ⟨b, 41, none⟩ (.pointer (some ⟨w.heap.size + 1 + 1 + 1, 0, none⟩))) := by
  have hB : ∀ o1 o2 o3 o4, Below w.heap.size w ((((w.alloc o1).alloc o2).alloc o3).alloc o4) := fun o1 o2 o3 o4 =>
    ((((Below.refl _ _).alloc (Nat.le_refl _) _).alloc (by simp) _).alloc (by simp; omega) _).alloc (by simp; omega) _
  have n0 : ∀ o1 o2 o3 o4, ((((w.alloc o1).alloc o2).alloc o3).alloc o4).heap[w.heap.size]? = some o1 := fun o1 o2 o3 o4 => by
    rw [Below.heap_alloc _ _ _ (by simp; omega), Below.heap_alloc _ _ _ (by simp; omega), Below.heap_alloc _ _ _ (by simp)]
    exact heap_new w o1
  have n1 : ∀ o1 o2 o3 o4, ((((w.alloc o1).alloc o2).alloc o3).alloc o4).heap[w.heap.size + 1]? = some o2 := fun o1 o2 o3 o4 => by
    rw [Below.heap_alloc _ _ _ (by simp), Below.heap_alloc _ _ _ (by simp)]
    simpa using heap_new (w.alloc o1) o2
  have n2 : ∀ o1 o2 o3 o4, ((((w.alloc o1).alloc o2).alloc o3).alloc o4).heap[w.heap.size + 1 + 1]? = some o3 := fun o1 o2 o3 o4 => by
    rw [Below.heap_alloc _ _ _ (by simp)]
    simpa using heap_new ((w.alloc o1).alloc o2) o3
  have n3 : ∀ o1 o2 o3 o4, ((((w.alloc o1).alloc o2).alloc o3).alloc o4).heap[w.heap.size + 1 + 1 + 1]? = some o4 := fun o1 o2 o3 o4 => by
    simpa using heap_new (((w.alloc o1).alloc o2).alloc o3) o4
  have hcl := fun o1 o2 o3 o4 => ((hB o1 o2 o3 o4).cell (p := ⟨b, 41, none⟩) hb).trans hc
  have hsz : ∀ o1 o2 o3 o4, ((((w.alloc o1).alloc o2).alloc o3).alloc o4).heap.size = w.heap.size + 1 + 1 + 1 + 1 := fun o1 o2 o3 o4 => by simp
  generalize hW : ((((w.alloc (.map #[] 0)).alloc (.map #[] 0)).alloc (.map #[] 0)).alloc (.cells #[.slice none 0 0, .map (some w.heap.size), .map (some (w.heap.size + 1)), .slice none 0 0, .map (some (w.heap.size + 1 + 1)), .slice none 0 0] 67)) = W
  have k0 := hW ▸ n0 _ _ _ _
  have k1 := hW ▸ n1 _ _ _ _
  have k2 := hW ▸ n2 _ _ _ _
  have k3 := hW ▸ n3 _ _ _ _
  have kb := hW ▸ hB _ _ _ _
  have kc := hW ▸ hcl _ _ _ _
  have ks := hW ▸ hsz _ _ _ _
  clear n0 n1 n2 n3 hB hcl hsz hW
  have o0 : ∀ k, w.heap.size ≤ k → ∀ u, (W.setCell ⟨b, 41, none⟩ u).heap[k]? = W.heap[k]? := fun k hk u => Below.heap_setCell _ _ _ _ (by simp; omega)
  constructor
  · exact World.cell?_setCell_same _ _ _ kc
  · simp [World.cell?, o0 _ (show w.heap.size ≤ w.heap.size + 1 + 1 + 1 by omega), k3]
  · simp [World.cell?, o0 _ (show w.heap.size ≤ w.heap.size + 1 + 1 + 1 by omega), k3]
  · simp [World.cell?, o0 _ (show w.heap.size ≤ w.heap.size + 1 + 1 + 1 by omega), k3]
  · simp [World.cell?, o0 _ (show w.heap.size ≤ w.heap.size + 1 + 1 + 1 by omega), k3]
  · simp [World.cell?, o0 _ (show w.heap.size ≤ w.heap.size + 1 + 1 + 1 by omega), k3]
  · simp [World.cell?, o0 _ (show w.heap.size ≤ w.heap.size + 1 + 1 + 1 by omega), k3]
  · rw [o0 _ (by omega)]; exact k0
  · rw [o0 _ (by omega)]; exact k1
  · rw [o0 _ (by omega)]; exact k2
  · simpa [World.setCell] using ks
  · exact (kb.mono (Nat.le_of_lt hb)).setCell (Nat.le_refl _) _

set_option maxHeartbeats 400000 in
/-- The node has none: it makes one, with three new maps, and keeps it. -/
theorem outbox_fresh (b : Nat) (w : World) (hc : w.cell? ⟨b, 41, none⟩ = some (.pointer none)) (hf : w.frozen? ⟨b, 41, none⟩ = false) (hb : b < w.heap.size) :
    Calls Yba.prog 10 #[.pointer (some ⟨b, 0, none⟩)] w fun e w' => e = .returned (.pointer (some ⟨w.heap.size + 1 + 1 + 1, 0, none⟩)) ∧ Fresh b w.heap.size w w' := by
  have hmm := @run_makeMap Yba.prog
  have c4 : ∀ o1 o2 o3 o4, ((((w.alloc o1).alloc o2).alloc o3).alloc o4).cell? ⟨b, 41, none⟩ = some (.pointer none) := fun o1 o2 o3 o4 => by
    refine (Below.cell (B := w.heap.size) ?_ hb).trans hc
    exact ((((Below.refl _ _).alloc (Nat.le_refl _) _).alloc (by simp) _).alloc (by simp; omega) _).alloc (by simp; omega) _
  have f4 : ∀ o1 o2 o3 o4, ((((w.alloc o1).alloc o2).alloc o3).alloc o4).frozen? ⟨b, 41, none⟩ = false := fun o1 o2 o3 o4 => by
    refine (Below.frozen (B := w.heap.size) ?_ hb).trans hf
    exact ((((Below.refl _ _).alloc (Nat.le_refl _) _).alloc (by simp) _).alloc (by simp; omega) _).alloc (by simp; omega) _
  go_enter Yba.func10, Yba.ntmps10
  go_wp2
  go_ret
  exact ⟨rfl, fresh_of b w _ hc hb⟩
end Go.Proofs.Ybulkafi
