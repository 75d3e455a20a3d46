/-
  OUR OWN: 'q.blockersAhead(r, n)(func ..)': the call as the law makes it.
-/
import Derived.Test.YbulkajcDoorBuilt
namespace Go.Proofs.YbulkajcDoor
open Go.RowKit

set_option maxHeartbeats 400000 in
/-- 'blockersAhead' (14): it boxes what the closure captures. -/
theorem blockers_any (q r : Addr) (n : Int) (w : World) :
    Calls Ybad.prog 14 #[.pointer (some q), .pointer (some r), .int .i64 n] w fun e w' =>
      e = .returned (.func (.func 24) #[] #[.pointer (some ⟨w.heap.size + 1 + 1, 0, none⟩), .pointer (some ⟨w.heap.size, 0, none⟩), .pointer (some ⟨w.heap.size + 1, 0, none⟩)]) ∧
      w' = ((w.alloc (.cells #[.pointer (some q)] 96)).alloc (.cells #[.pointer (some r)] 82)).alloc (.cells #[.int .i64 n] 3) := by
  go_enter Ybad.func14, Ybad.ntmps14
  go_wp2
  go_ret
  exact ⟨rfl, rfl⟩

theorem Scene.later {w w' : World} {N wsB : Nat} {lb tb : Nat → Nat} {lm lk : Nat → Int} {wd : Nat → Bool} {tab : Bool} {rb rt : Nat} {rm rk h : Int} (S : Scene w N wsB lb tb lm lk wd tab rb rt rm rk h) (hb : Below w.heap.size w w') :
    Scene w' N wsB lb tb lm lk wd tab rb rt rm rk h :=
  { table := S.table.later hb, r := S.r.later hb, rtrx := S.rtrx.later hb
    ws := fun i hi => (hb.cell (p := ⟨wsB, i, none⟩) (World.block_lt_of_cell? w _ (S.ws i hi))).trans (S.ws i hi)
    lock := fun i hi => (S.lock i hi).later hb, trx := fun i hi => (S.trx i hi).later hb
    rlo := S.rlo, rhi := S.rhi, rrow := S.rrow, rup := S.rup, llo := S.llo, lhi := S.lhi, lrow := S.lrow, lkhi := S.lkhi }

theorem ahead_at {wr : World} {N wsB : Nat} {lb tb : Nat → Nat} {lm lk : Nat → Int} {wd : Nat → Bool} {tab : Bool} {rb rt : Nat} {rm rk h : Int} (S : Scene wr N wsB lb tb lm lk wd tab rb rt rm rk h)
    {n L : Nat} (hn : n ≤ N) (hN : N ≤ 1024) (hL0 : 0 < L) (qs : Array Value) (hq : qs[1]? = some (.slice (some ⟨wsB, 0, none⟩) N N)) :
    Calls Ybad.prog 24 #[.func (.func 15) #[] #[.pointer (some ⟨wr.heap.size + 1 + 1, 0, none⟩), .pointer (some ⟨wr.heap.size, 0, none⟩)], .pointer (some ⟨wr.heap.size + 1 + 1 + 1 + 1 + 1, 0, none⟩), .pointer (some ⟨wr.heap.size + 1 + 1 + 1, 0, none⟩), .pointer (some ⟨wr.heap.size + 1 + 1 + 1 + 1, 0, none⟩)]
      ((((((wr.alloc (.cells #[.int .i64 L] 3)).alloc (.cells qs 141)).alloc (.cells #[.slice none 0 0] 84)).alloc (.cells #[.pointer (some ⟨wr.heap.size + 1, 0, none⟩)] 96)).alloc (.cells #[.pointer (some ⟨rb, 0, none⟩)] 82)).alloc (.cells #[.int .i64 n] 3)) fun e w' =>
      e = .returned (.tuple #[]) ∧ Below wr.heap.size wr w' ∧ w'.cell? ⟨wr.heap.size, 0, none⟩ = some (.int .i64 L) ∧ Got w' (wr.heap.size + 1 + 1) (wr.heap.size + 6) ((hits (hit tb lm lk wd tab rt rm rk h) lb n).take L) ∧ wr.heap.size + 6 ≤ w'.heap.size := by
  generalize e1 : Obj.cells #[.int .i64 L] 3 = o1
  generalize e2 : Obj.cells qs 141 = o2
  generalize e3 : Obj.cells #[.slice none 0 0] 84 = o3
  generalize e4 : Obj.cells #[.pointer (some ⟨wr.heap.size + 1, 0, none⟩)] 96 = o4
  generalize e5 : Obj.cells #[.pointer (some ⟨rb, 0, none⟩)] 82 = o5
  generalize e6 : Obj.cells #[.int .i64 n] 3 = o6
  have n0 : ((((((wr.alloc o1).alloc o2).alloc o3).alloc o4).alloc o5).alloc o6).heap[wr.heap.size]? = some o1 := by
    rw [Below.heap_alloc _ _ _ (by simp only [World.size_alloc]; omega), Below.heap_alloc _ _ _ (by simp only [World.size_alloc]; omega), Below.heap_alloc _ _ _ (by simp only [World.size_alloc]; omega), Below.heap_alloc _ _ _ (by simp only [World.size_alloc]; omega), Below.heap_alloc _ _ _ (by simp only [World.size_alloc]; omega)]
    exact heap_new wr o1
  have n1 : ((((((wr.alloc o1).alloc o2).alloc o3).alloc o4).alloc o5).alloc o6).heap[wr.heap.size + 1]? = some o2 := by
    rw [Below.heap_alloc _ _ _ (by simp only [World.size_alloc]; omega), Below.heap_alloc _ _ _ (by simp only [World.size_alloc]; omega), Below.heap_alloc _ _ _ (by simp only [World.size_alloc]; omega), Below.heap_alloc _ _ _ (by simp only [World.size_alloc]; omega)]
    simpa only [World.size_alloc] using heap_new (wr.alloc o1) o2
  have n2 : ((((((wr.alloc o1).alloc o2).alloc o3).alloc o4).alloc o5).alloc o6).heap[wr.heap.size + 1 + 1]? = some o3 := by
    rw [Below.heap_alloc _ _ _ (by simp only [World.size_alloc]; omega), Below.heap_alloc _ _ _ (by simp only [World.size_alloc]; omega), Below.heap_alloc _ _ _ (by simp only [World.size_alloc]; omega)]
    simpa only [World.size_alloc] using heap_new ((wr.alloc o1).alloc o2) o3
  have n3 : ((((((wr.alloc o1).alloc o2).alloc o3).alloc o4).alloc o5).alloc o6).heap[wr.heap.size + 1 + 1 + 1]? = some o4 := by
    rw [Below.heap_alloc _ _ _ (by simp only [World.size_alloc]; omega), Below.heap_alloc _ _ _ (by simp only [World.size_alloc]; omega)]
    simpa only [World.size_alloc] using heap_new (((wr.alloc o1).alloc o2).alloc o3) o4
  have n4 : ((((((wr.alloc o1).alloc o2).alloc o3).alloc o4).alloc o5).alloc o6).heap[wr.heap.size + 1 + 1 + 1 + 1]? = some o5 := by
    rw [Below.heap_alloc _ _ _ (by simp only [World.size_alloc]; omega)]
    simpa only [World.size_alloc] using heap_new ((((wr.alloc o1).alloc o2).alloc o3).alloc o4) o5
  have n5 : ((((((wr.alloc o1).alloc o2).alloc o3).alloc o4).alloc o5).alloc o6).heap[wr.heap.size + 1 + 1 + 1 + 1 + 1]? = some o6 := by
    simpa only [World.size_alloc] using heap_new (((((wr.alloc o1).alloc o2).alloc o3).alloc o4).alloc o5) o6
  have hb : Below wr.heap.size wr ((((((wr.alloc o1).alloc o2).alloc o3).alloc o4).alloc o5).alloc o6) :=
    ((((((Below.refl _ _).alloc (Nat.le_refl _) _).alloc (by simp only [World.size_alloc]; omega) _).alloc (by simp only [World.size_alloc]; omega) _).alloc (by simp only [World.size_alloc]; omega) _).alloc (by simp only [World.size_alloc]; omega) _).alloc (by simp only [World.size_alloc]; omega) _
  have hs : ((((((wr.alloc o1).alloc o2).alloc o3).alloc o4).alloc o5).alloc o6).heap.size = wr.heap.size + 6 := by simp only [World.size_alloc]
  generalize ((((((wr.alloc o1).alloc o2).alloc o3).alloc o4).alloc o5).alloc o6) = W at n0 n1 n2 n3 n4 n5 hb hs ⊢
  subst e1 e2 e3 e4 e5 e6
  have hL := cell_of_one n0
  refine (ahead_any W N wsB lb tb lm lk wd tab rb rt rm rk h (S.later hb) (wr.heap.size + 1 + 1 + 1 + 1 + 1) (wr.heap.size + 1 + 1 + 1) (wr.heap.size + 1 + 1 + 1 + 1) (wr.heap.size + 1) (wr.heap.size + 1 + 1) wr.heap.size n L
    (cell_of_one n5) (cell_of_one n3) (cell_of_one n4) (by simp [World.cell?, n1, hq]) hn hN n2 hL hL0).mono ?_
  rintro e w' ⟨he, hgot, hk⟩
  rw [hs] at hgot
  refine ⟨he, hb.trans (hk.below (by omega) (by omega)), keeps_cell hk n2 hL (by simp), hgot, by have := hk.size; omega⟩

/-- The scene out of what has been built. -/
theorem Built.scene {w wr : World} {B N : Nat} {tab : Bool} {rm rk h : Int} {lm lk : Nat → Int} {ix : Nat → Int} {wd : Nat → Bool} {lb : Nat → Nat} (b : Built w wr B N N tab rm rk h lm lk (fun i => (ix i % 3).toNat) wd lb)
    (rlo : 0 ≤ rm) (rhi : rm < 5) (rrow : tab = false → rm = 2 ∨ rm = 3) (rup : tab = false → rm = 3 → rk = 3) (llo : ∀ i, i < N → 0 ≤ lm i) (lhi : ∀ i, i < N → lm i < 5) (lrow : ∀ i, i < N → tab = false → lm i = 2 ∨ lm i = 3) (lkhi : ∀ i, i < N → lk i ≤ 3) :
    Scene wr N (B + 5) lb (fun i => B + (ix i % 3).toNat) lm lk wd tab (B + 1 + 1 + 1 + 1) B rm rk h :=
  { table := b.base.table, r := b.base.r, rtrx := b.base.t0, ws := fun i hi => b.ws.cell hi, lock := fun i hi => b.lock i hi
    trx := fun i _ => by
      rcases (show (ix i % 3).toNat = 0 ∨ (ix i % 3).toNat = 1 ∨ (ix i % 3).toNat = 2 by omega) with e | e | e
      · simp only [e]; exact b.base.t0
      · simp only [e]; exact b.base.t1
      · simp only [e]; exact b.base.t2
    rlo := rlo, rhi := rhi, rrow := rrow, rup := rup, llo := llo, lhi := lhi, lrow := lrow, lkhi := lkhi }
end Go.Proofs.YbulkajcDoor
