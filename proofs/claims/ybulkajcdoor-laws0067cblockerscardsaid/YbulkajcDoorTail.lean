/-
  OUR OWN: what the law's last two loops lean on, outside the walk.
-/
import Derived.Test.YbulkajcDoorCallIt
namespace Go.Proofs.YbulkajcDoor
open Go.RowKit

theorem ne82 (a : Addr) (w : World) : (binOp .neq 82 (.pointer (some a)) (.pointer (some a))).run Ybad.prog w = .ok (.bool false) w := by
  obtain ⟨j, hj⟩ : ∃ j, Ybad.prog.info? 100 = some j := Option.isSome_iff_exists.1 (by kernel_rfl)
  exact Lib.run_neq_ptr_same w a Ybad.underlying82 hj

theorem owns_slice {w : World} {base n : Nat} {v : Value} {xs : List Value} (h : w.ownsRow base 82 1 v n xs) : ∃ ao cp, v = .slice ao n cp := by
  obtain ⟨_, ⟨rfl, rfl⟩ | ⟨g, cap, cur, rfl, _⟩⟩ := h
  · exact ⟨_, _, rfl⟩
  · exact ⟨_, _, rfl⟩

theorem idx84 {ao : Option Addr} {g : Nat} (h : ao = some ⟨g, 0, none⟩) (n c q : Nat) (hq : q < n) (w : World) :
    (Instr.indexAt 84 (.slice ao n c) (.int .i64 q)).run Ybad.prog w = .ok (.pointer (some ⟨g, q, none⟩)) w := by
  subst h
  obtain ⟨i, hi, _, hs, _⟩ := info_parts info82
  have h2 : Ybad.prog.underlying 84 = some (.slice (Ybad.prog.elem 84)) := by simp [Program.elem, Ybad.underlying84]
  have h3 : Ybad.prog.elem 84 = 82 := by simp [Program.elem, Ybad.underlying84]
  rw [run_indexAt_slice (h := h2), if_pos ⟨by omega, by omega⟩, h3]
  simp [sizeOf, typeInfo, hi, hs, Addr.add]
  omega

theorem owns_at {w : World} {base n : Nat} {v : Value} {xs : List Value} (h : w.ownsRow base 82 1 v n xs) (q : Nat) (hq : q < xs.length) :
    ∃ g, (∀ wz, (Instr.indexAt 84 v (.int .i64 q)).run Ybad.prog wz = .ok (.pointer (some ⟨g, q, none⟩)) wz) ∧ w.cell? ⟨g, q, none⟩ = some xs[q] := by
  obtain ⟨hl, ⟨rfl, rfl⟩ | ⟨g, cap, cur, rfl, _, hh, _, _, hcs, htk⟩⟩ := h
  · omega
  · refine ⟨g, fun wz => idx84 rfl n cap q (by omega) wz, ?_⟩
    have hx : cur.toList[q]? = some xs[q] := by
      have : xs[q]? = some xs[q] := List.getElem?_eq_getElem hq
      rw [← this, ← htk, List.getElem?_take_of_lt (by omega)]
    rw [Array.getElem?_toList] at hx
    simp [World.cell?, hh, hx]

theorem hits_ptr {p : Nat → Bool} {lb : Nat → Nat} {n L : Nat} {x : Value} (h : x ∈ (hits p lb n).take L) : ∃ a, x = .pointer (some a) := by
  have := List.mem_of_mem_take h
  simp only [hits, List.mem_map] at this
  obtain ⟨i, _, rfl⟩ := this
  exact ⟨_, rfl⟩

/-- An owned row lies below the heap's size, and stays. -/
theorem owns_later {w w' : World} {base n : Nat} {v : Value} {xs : List Value} (h : w.ownsRow base 82 1 v n xs) (hb : Below w.heap.size w w') : w'.ownsRow base 82 1 v n xs := by
  obtain ⟨hl, h2 | ⟨g, cap, cur, hv, hg, hh, r⟩⟩ := h
  · exact ⟨hl, .inl h2⟩
  · exact ⟨hl, .inr ⟨g, cap, cur, hv, hg, (hb.block g (lt_of_block hh)).trans hh, r⟩⟩
theorem Got.later {w w' : World} {G B : Nat} {xs : List Value} (h : Got w G B xs) (hb : Below w.heap.size w w') : Got w' G B xs := by
  obtain ⟨gv, h1, h2⟩ := h
  exact ⟨gv, (hb.block G (lt_of_block h1)).trans h1, owns_later h2 hb⟩

/-- 'want' behind j rounds: the first of those that are waited for, no more than L; in rows from B on. -/
def Want (w : World) (B L : Nat) (p : Nat → Bool) (lb : Nat → Nat) (j : Nat) (v : Value) : Prop := w.ownsRow B 82 1 v ((hits p lb j).take L).length ((hits p lb j).take L)

theorem want_full {p : Nat → Bool} {lb : Nat → Nat} {j n L : Nat} (hj : j ≤ n) (h : ((hits p lb j).take L).length = L) : (hits p lb n).take L = (hits p lb j).take L :=
  hits_take hj (by simp at h; omega)
theorem want_open {p : Nat → Bool} {lb : Nat → Nat} {j L : Nat} (h : ((hits p lb j).take L).length ≠ L) : (hits p lb j).take L = hits p lb j ∧ (hits p lb j).length < L := by
  have h2 : (hits p lb j).length < L := by simp at h; omega
  exact ⟨List.take_of_length_le (by omega), h2⟩
theorem want_no {p : Nat → Bool} {lb : Nat → Nat} {j L : Nat} (h : p j = false) : (hits p lb (j + 1)).take L = (hits p lb j).take L := by rw [hits_no h]
theorem want_yes {p : Nat → Bool} {lb : Nat → Nat} {j L : Nat} (h : p j = true) (ho : ((hits p lb j).take L).length ≠ L) : (hits p lb (j + 1)).take L = (hits p lb j).take L ++ [.pointer (some ⟨lb j, 0, none⟩)] := by
  obtain ⟨h1, h2⟩ := want_open ho
  rw [h1, hits_yes h, List.take_of_length_le (by simp; omega)]
end Go.Proofs.YbulkajcDoor
