/-
  OUR OWN: 'LawS0060BKept': what its walk leans on, outside the walk.
-/
import Derived.Test.YbulkafiOutbox
import Derived.Laws.CopyOwn
namespace Go.Proofs.Ybulkafi
open Go.RowKit

/-- What the walk is told of a slice of one-cell elements that came in: its first 'len' cells hold 'cs'; nil only where it is empty. -/
def Lies (w : World) (a : Option Addr) (len : Nat) (cs : List Value) : Prop :=
  cs.length = len ∧ (a = none → len = 0) ∧ ∃ b off, ∀ k, (h : k < cs.length) → a = some ⟨b, off, none⟩ ∧ w.cell? ⟨b, off + k, none⟩ = some cs[k]

/-- The value of a slice that the law itself has filled: as long as 'cs', nil where 'a' is, its cells hold 'cs', in a block from B on. -/
def Copied (B : Nat) (w : World) (a : Option Addr) (len : Nat) (cs : List Value) (v : Value) : Prop :=
  ∃ va : Option Addr, v = .slice va len len ∧ va.isNone = a.isNone ∧ ∃ g, B ≤ g ∧ ∀ k, (h : k < cs.length) → va = some ⟨g, 0, none⟩ ∧ w.cell? ⟨g, k, none⟩ = some cs[k]

theorem idx_of {t e : TypeId} {i : TypeInfo} (ht : Yba.prog.underlying t = some (.slice e)) (hi : Yba.prog.info? e = some i) (hsz : i.size = 1) {ao : Option Addr} {b off : Nat} (h : ao = some ⟨b, off, none⟩) (n c k : Nat) (hk : k < n) (w : World) :
    (Instr.indexAt t (.slice ao n c) (.int .i64 k)).run Yba.prog w = .ok (.pointer (some ⟨b, off + k, none⟩)) w := by
  subst h
  have h2 : Yba.prog.underlying t = some (.slice (Yba.prog.elem t)) := by simp [Program.elem, ht]
  have h3 : Yba.prog.elem t = e := by simp [Program.elem, ht]
  rw [run_indexAt_slice (h := h2), if_pos ⟨by omega, by omega⟩, h3]
  simp [sizeOf, typeInfo, hi, hsz, Addr.add]

theorem copied_nil {B len : Nat} {cs : List Value} {w w' : World} (h : Lies w none len cs) : Copied B w' none len cs (.slice none 0 0) := by
  obtain ⟨hl, h0, _⟩ := h
  obtain rfl := h0 rfl
  exact ⟨none, rfl, rfl, B, Nat.le_refl _, fun k hk => absurd hk (by omega)⟩

/-- Later blocks and draws turn nothing of it. -/
theorem Copied.later {B len : Nat} {cs : List Value} {w w' : World} {a : Option Addr} {v : Value} (h : Copied B w a len cs v) (hb : Below w.heap.size w w') : Copied B w' a len cs v := by
  obtain ⟨va, e1, e2, g, hg, hc⟩ := h
  exact ⟨va, e1, e2, g, hg, fun k hk => ⟨(hc k hk).1, (hb.cell (p := ⟨g, k, none⟩) (World.block_lt_of_cell? w _ (hc k hk).2)).trans (hc k hk).2⟩⟩

theorem info5 : (Yba.prog.info? 5).map (fun i => (i.zero, i.size, i.bytes)) = some (some (.int .u8 0), 1, 1) := by kernel_rfl
theorem info26 : (Yba.prog.info? 26).map (fun i => (i.zero, i.size, i.bytes)) = some (some (.string ByteArray.empty), 1, 16) := by kernel_rfl
theorem info9 : (Yba.prog.info? 9).map (fun i => (i.zero, i.size, i.bytes)) = some (some (.string ByteArray.empty), 1, 16) := by kernel_rfl

/-- 'hc = make([]byte, len(header)); copy(hc, header)'. -/
theorem copied_header {x : Addr} {len cap : Nat} {cs : List Value} {w : World} (h : Lies w (some x) len cs) (hle : len ≤ 1024) (hone : ∀ v ∈ cs, v.oneCell' = true) :
    ∃ w1 w2, (Instr.makeSlice 65 (.int .i64 len) (.int .i64 len)).run Yba.prog w = .ok (.slice (some ⟨w.heap.size, 0, none⟩) len len) w1 ∧
      (∀ ty, (Builtin.copy_ #[65, 65] ty #[.slice (some ⟨w.heap.size, 0, none⟩) len len, .slice (some x) len cap]).run Yba.prog w1 = .ok (.int .i64 len) w2) ∧
      Copied w.heap.size w2 (some x) len cs (.slice (some ⟨w.heap.size, 0, none⟩) len len) ∧ Below w.heap.size w w2 := by
  obtain ⟨hlen, _, b, off, hcell⟩ := h
  obtain ⟨i, hi, hz, hs, hby⟩ := info_parts info5
  obtain ⟨w1, hrun, hown, hg⟩ := run_make_full (P := Yba.prog) w w.heap.size 65 5 i _ 1 Yba.underlying65 hi hz hs .i64 .i64 len (by rw [hby]; omega) (by unfold maxLen; omega) (Nat.le_refl _)
  obtain ⟨_, ⟨e0, _⟩ | ⟨g, c, cur, hv, hbg, hh, _, _, hcs, _⟩⟩ := hown
  · simp at e0
  have hv' : w.heap.size = g ∧ len = c := by simpa using hv
  obtain ⟨hv1, hv2⟩ := hv'
  subst hv1
  subst hv2
  have hb1 : Below w.heap.size w w1 := (Below.refl _ _).grown hg (Nat.le_refl _) (fun k hk => by cases hk)
  by_cases h0 : len = 0
  · subst h0
    obtain rfl : cs = [] := List.eq_nil_of_length_eq_zero hlen
    refine ⟨w1, w1, hrun, fun ty => ?_, ⟨some ⟨w.heap.size, 0, none⟩, rfl, rfl, w.heap.size, Nat.le_refl _, fun k hk => absurd hk (by simp)⟩, hb1⟩
    exact run_copy_none w1 65 65 ty 5 _ _ 0 0 0 cap Yba.underlying65 (by simp [hi, hs]) (by simp)
  · obtain ⟨hx, _⟩ := hcell 0 (by omega)
    obtain rfl : x = ⟨b, off, none⟩ := by simpa using hx
    have hsrc : ∀ j v, cs[j]? = some v → w1.cell? ((⟨b, off, none⟩ : Addr).add j) = some v := by
      intro j v hj
      obtain ⟨hjl, rfl⟩ := List.getElem?_eq_some_iff.1 hj
      have hc := (hcell j hjl).2
      rw [WideShapes.add_plain]
      exact (hb1.cell (p := ⟨b, off + j, none⟩) (World.block_lt_of_cell? w _ hc)).trans hc
    have hcp := fun ty => run_copy_row (P := Yba.prog) w1 65 65 ty 5 w.heap.size 0 len len ⟨b, off, none⟩ len cap cur 5 cs Yba.underlying65 (by simp [hi, hs]) hh (by rw [hlen]; simp) hsrc (by omega) hone
    have eg : goInt cs.length = .int .i64 len := by rw [hlen]; rfl
    refine ⟨w1, (w1.setRow w.heap.size (List.take 0 cur.toList ++ cs ++ List.drop (0 + cs.length) cur.toList).toArray), hrun, fun ty => (hcp ty).trans (by rw [eg]), ⟨some ⟨w.heap.size, 0, none⟩, rfl, rfl, w.heap.size, Nat.le_refl _, fun k hk => ⟨rfl, ?_⟩⟩, below_setRow hb1 (Nat.le_refl _) _⟩
    have e1 := setRow_heap w1 w.heap.size cur (List.take 0 cur.toList ++ cs ++ List.drop (0 + cs.length) cur.toList).toArray 5 (0, 0) hh
    simp only [World.cell?, e1]
    simp
    rw [List.getElem?_append_left hk]
    simp

/-- The row that 'make([]Addr, n)' lays, filled up to k. -/
def Filled (g len : Nat) (cs : List Value) (k : Nat) (w : World) : Prop := ∃ cur : Array Value, w.heap[g]? = some (.cells cur 26 (0, 0)) ∧ cur.size = len ∧ ∀ j, (h : j < cs.length) → j < k → cur[j]? = some cs[j]

theorem filled_made {len : Nat} (cs : List Value) (w : World) (hle : len ≤ 1024) :
    ∃ w1, (Instr.makeSlice 63 (.int .i64 len) (.int .i64 len)).run Yba.prog w = .ok (.slice (some ⟨w.heap.size, 0, none⟩) len len) w1 ∧ Filled w.heap.size len cs 0 w1 ∧ Below w.heap.size w w1 := by
  obtain ⟨i, hi, hz, hs, hby⟩ := info_parts info26
  obtain ⟨w1, hrun, hown, hg⟩ := run_make_full (P := Yba.prog) w w.heap.size 63 26 i _ 1 Yba.underlying63 hi hz hs .i64 .i64 len (by rw [hby]; omega) (by unfold maxLen; omega) (Nat.le_refl _)
  obtain ⟨_, ⟨e0, _⟩ | ⟨g, c, cur, hv, hbg, hh, _, _, hcs, _⟩⟩ := hown
  · simp at e0
  have hv' : w.heap.size = g ∧ len = c := by simpa using hv
  obtain ⟨hv1, hv2⟩ := hv'
  subst hv1
  subst hv2
  exact ⟨w1, hrun, ⟨cur, hh, by omega, fun j _ hj => absurd hj (by omega)⟩, (Below.refl _ _).grown hg (Nat.le_refl _) (fun k hk => by cases hk)⟩

theorem Filled.cell {g len k : Nat} {cs : List Value} {w : World} (h : Filled g len cs k w) (j : Nat) (hj : j < len) : ∃ v, w.cell? ⟨g, j, none⟩ = some v := by
  obtain ⟨cur, hh, hs, _⟩ := h
  exact ⟨cur[j]'(by omega), by simp [World.cell?, hh]⟩
theorem Filled.free {g len k : Nat} {cs : List Value} {w : World} (h : Filled g len cs k w) (j : Nat) : w.frozen? ⟨g, j, none⟩ = false := by
  obtain ⟨cur, hh, hs, _⟩ := h
  simp [World.frozen?, hh]
theorem Filled.lt {g len k : Nat} {cs : List Value} {w : World} (h : Filled g len cs k w) : g < w.heap.size := by
  obtain ⟨cur, hh, _⟩ := h
  exact (Array.getElem?_eq_some_iff.1 hh).1
theorem Filled.step {g len k : Nat} {cs : List Value} {w : World} (h : Filled g len cs k w) (hk : k < cs.length) (hl : cs.length = len) : Filled g len cs (k + 1) (w.setCell ⟨g, k, none⟩ cs[k]) := by
  obtain ⟨cur, hh, hs, hc⟩ := h
  refine ⟨cur.setIfInBounds k cs[k], ?_, by simpa using hs, fun j hj hjk => ?_⟩
  · exact heap_setCell_same w g k cur 26 _ hh
  · rw [Array.getElem?_setIfInBounds]
    by_cases e : k = j
    · subst e; simp; omega
    · rw [if_neg e]; exact hc j hj (by omega)
theorem Filled.done {g len : Nat} {cs : List Value} {w : World} (h : Filled g len cs len w) (hl : cs.length = len) : ∀ k, (hk : k < cs.length) → w.cell? ⟨g, k, none⟩ = some cs[k] := by
  obtain ⟨cur, hh, hs, hc⟩ := h
  intro k hk
  simp [World.cell?, hh, hc k hk (by omega)]
end Go.Proofs.Ybulkafi
