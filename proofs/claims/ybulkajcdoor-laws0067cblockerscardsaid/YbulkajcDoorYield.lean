/-
  OUR OWN: the law's own closure 'func(l *lock) bool { got = append(got, l); return len(got) < limit }' (function 15), by its contract.
-/
import Derived.Test.YbulkajcDoorWaits
namespace Go.Proofs.YbulkajcDoor
open Go.RowKit

/-- Below block number B, block G aside, the world w' is as w was. -/
structure Keeps (G B : Nat) (w w' : World) : Prop where
  os : w'.os = w.os
  tape : w'.tape = w.tape
  output : w'.output = w.output
  size : w.heap.size ≤ w'.heap.size
  block : ∀ k, k < B → k ≠ G → w'.heap[k]? = w.heap[k]?

theorem Keeps.refl (G B : Nat) (w : World) : Keeps G B w w := ⟨rfl, rfl, rfl, Nat.le_refl _, fun _ _ _ => rfl⟩
theorem Keeps.trans {G B : Nat} {a b c : World} (h : Keeps G B a b) (k : Keeps G B b c) : Keeps G B a c :=
  ⟨k.os.trans h.os, k.tape.trans h.tape, k.output.trans h.output, Nat.le_trans h.size k.size, fun i hi hg => (k.block i hi hg).trans (h.block i hi hg)⟩
theorem Keeps.mono {G B B' : Nat} {a b : World} (h : Keeps G B a b) (hB : B' ≤ B) : Keeps G B' a b := ⟨h.os, h.tape, h.output, h.size, fun i hi hg => h.block i (by omega) hg⟩
theorem Keeps.of_below {G B : Nat} {a b : World} (h : Below B a b) : Keeps G B a b := ⟨h.os, h.tape, h.output, h.size, fun i hi _ => h.block i hi⟩
theorem Keeps.below {G B B' : Nat} {a b : World} (h : Keeps G B a b) (h1 : B' ≤ B) (h2 : B' ≤ G) : Below B' a b := ⟨h.os, h.tape, h.output, h.size, fun i hi => h.block i (by omega) (by omega)⟩
theorem Keeps.setG {G B : Nat} (w : World) (o : Nat) (v : Value) : Keeps G B w (w.setCell ⟨G, o, none⟩ v) :=
  ⟨rfl, rfl, rfl, by simp [World.setCell], fun i _ hg => Below.heap_setCell _ _ _ _ hg⟩

theorem info82 : (Ybad.prog.info? 82).map (fun i => (i.zero, i.size, i.bytes)) = some (some (.pointer none), 1, 8) := by kernel_rfl

theorem owns_shape {w : World} {base n : Nat} {v : Value} {xs : List Value} (h : w.ownsRow base 82 1 v (n + 1) xs) : ∃ g cap, v = .slice (some ⟨g, 0, none⟩) (n + 1) cap ∧ base ≤ g := by
  obtain ⟨_, ⟨_, e⟩ | ⟨g, cap, cur, hv, hg, _⟩⟩ := h
  · omega
  · exact ⟨g, cap, hv, hg⟩
theorem own_ge {w : World} {base n : Nat} {v : Value} {xs : List Value} (h : w.ownsRow base 82 1 v n xs) : ∀ k, v.ownBlock = some k → base ≤ k := by
  intro k hk
  obtain ⟨_, ⟨rfl, _⟩ | ⟨g, cap, cur, rfl, hg, _⟩⟩ := h
  · simp [Value.ownBlock] at hk
  · simp [Value.ownBlock] at hk; omega

set_option maxHeartbeats 1000000 in
theorem yield_any (G Lb base n : Nat) (L : Int) (p : Addr) (gv : Value) (xs : List Value) (w : World) (hG : w.heap[G]? = some (.cells #[gv] 84 (0, 0))) (hL : w.cell? ⟨Lb, 0, none⟩ = some (.int .i64 L)) (hLG : Lb ≠ G) (hLb : Lb < base)
    (hown : w.ownsRow base 82 1 gv n xs) (hGb : G < base) (hb : base ≤ w.heap.size) (hn : n ≤ 1024) :
    Calls Ybad.prog 15 #[.pointer (some p), .pointer (some ⟨G, 0, none⟩), .pointer (some ⟨Lb, 0, none⟩)] w fun e w' => e = .returned (.bool (decide ((n : Int) + 1 < L))) ∧
      ∃ gv', w'.heap[G]? = some (.cells #[gv'] 84 (0, 0)) ∧ w'.ownsRow base 82 1 gv' (n + 1) (xs ++ [.pointer (some p)]) ∧ Keeps G base w w' := by
  obtain ⟨i0, hi, hz0, hz1, hz2⟩ := info_parts info82
  have cG : w.cell? ⟨G, 0, none⟩ = some gv := cell_of_one hG
  have HG : Hid (w.heap[G]? = some (.cells #[gv] 84 (0, 0))) := hG
  have HO : Hid (w.ownsRow base 82 1 gv n xs) := hown
  have HLc : Hid (w.cell? ⟨Lb, 0, none⟩ = some (.int .i64 L)) := hL
  clear hG hown hL
  go_enter Ybad.func15, Ybad.ntmps15
  go_wp2_with (at_builtin; refine wpList_append_own _ rfl _ _ 84 rfl base 82 i0 (.pointer none) 1 8 Ybad.underlying84 hi hz0 hz1 hz2 rfl (by decide) _ _ _ rfl (HO.out.alloc _) ⟨w.heap.size, 0, none⟩ 1 1 [.pointer (some p)] rfl rfl (cell_one_new _ _ _) ?c2 ?c3 ?c4 ?c5 ?_)
  case c2 => intro u hu; simp at hu; subst hu; rfl
  case c3 => unfold maxLen; omega
  case c4 => omega
  case c5 => simp; omega
  intro v' w1 hown' hgrow _
  have HO' : Hid (w1.ownsRow base 82 1 v' (n + 1) (xs ++ [.pointer (some p)])) := hown'
  obtain ⟨g', cap', hv', hg'⟩ := owns_shape hown'
  clear hown'
  subst hv'
  have hG0 : (w.alloc (.cells #[.pointer (some p)] 82)).heap[G]? = some (.cells #[gv] 84 (0, 0)) := (Below.heap_alloc _ _ _ (lt_of_block HG.out)).trans HG.out
  have hne : ∀ k, k < base → some k ≠ gv.ownBlock := fun k hk e => by have := own_ge HO.out k e.symm; omega
  have hG1 : w1.heap[G]? = some (.cells #[gv] 84 (0, 0)) := (hgrow.block G (by simp; omega) (hne G hGb)).trans hG0
  have c1 := cell_of_one hG1
  have f1 := free_of_one hG1
  have HG1 : Hid (w1.heap[G]? = some (.cells #[gv] 84 (0, 0))) := hG1
  have hk1 : Keeps G base w w1 := ⟨hgrow.os, hgrow.tape, hgrow.output, Nat.le_trans (by simp) hgrow.size, fun k hk _ => (hgrow.block k (by simp; omega) (hne k hk)).trans (Below.heap_alloc _ _ _ (by omega))⟩
  have hL1 : ∀ u, (w1.setCell ⟨G, 0, none⟩ u).cell? ⟨Lb, 0, none⟩ = some (.int .i64 L) := fun u => by
    rw [World.cell?_setCell_other _ _ _ _ (by intro h; simp only [Addr.mk.injEq] at h; omega)]
    exact (World.cell?_of_block (a := ⟨Lb, 0, none⟩) (hk1.block Lb hLb hLG)).trans HLc.out
  have K1 : Hid (Keeps G base w w1) := hk1
  clear hG1 hk1 hG0 hgrow hne
  go_wp2
  go_ret
  exact ⟨rfl, _, one_setCell HG1.out, ownsRow_setCell_below HO'.out hGb _, K1.out.trans (Keeps.setG _ _ _)⟩
end Go.Proofs.YbulkajcDoor
