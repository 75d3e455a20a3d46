/-
  OUR OWN: what 'LawS0067CBlockers' has laid in memory: the request, the transactions, the waiting requests built so far.
-/
import Derived.Test.YbulkajcDoorAhead
namespace Go.Proofs.YbulkajcDoor
open Go.RowKit

/-- The first k of the N one-cell elements of the row at block g are f 0, f 1, .. -/
def RowOf (w : World) (g : Nat) (e : TypeId) (N k : Nat) (f : Nat → Value) : Prop := ∃ cur : Array Value, w.heap[g]? = some (.cells cur e (0, 0)) ∧ cur.size = N ∧ ∀ i, i < k → cur[i]? = some (f i)

theorem RowOf.cell {w : World} {g : Nat} {e : TypeId} {N k : Nat} {f : Nat → Value} (h : RowOf w g e N k f) {i : Nat} (hi : i < k) : w.cell? ⟨g, i, none⟩ = some (f i) := by
  obtain ⟨cur, h1, _, h3⟩ := h
  simp [World.cell?, h1, h3 i hi]
theorem RowOf.there {w : World} {g : Nat} {e : TypeId} {N k : Nat} {f : Nat → Value} (h : RowOf w g e N k f) {i : Nat} (hi : i < N) : ∃ v, w.cell? ⟨g, i, none⟩ = some v := by
  obtain ⟨cur, h1, h2, _⟩ := h
  exact ⟨cur[i]'(by omega), by simp [World.cell?, h1]⟩
theorem RowOf.free {w : World} {g : Nat} {e : TypeId} {N k : Nat} {f : Nat → Value} (h : RowOf w g e N k f) (i : Nat) : w.frozen? ⟨g, i, none⟩ = false := by
  obtain ⟨cur, h1, _⟩ := h
  simp [World.frozen?, h1]
theorem RowOf.lt {w : World} {g : Nat} {e : TypeId} {N k : Nat} {f : Nat → Value} (h : RowOf w g e N k f) : g < w.heap.size := by
  obtain ⟨cur, h1, _⟩ := h
  exact lt_of_block h1
theorem RowOf.block {w w' : World} {g : Nat} {e : TypeId} {N k : Nat} {f : Nat → Value} (h : RowOf w g e N k f) (hb : w'.heap[g]? = w.heap[g]?) : RowOf w' g e N k f := by
  obtain ⟨cur, h1, h2, h3⟩ := h
  exact ⟨cur, hb.trans h1, h2, h3⟩
theorem RowOf.other {w : World} {g : Nat} {e : TypeId} {N k : Nat} {f : Nat → Value} (h : RowOf w g e N k f) {x o : Nat} (hx : g ≠ x) (v : Value) : RowOf (w.setCell ⟨x, o, none⟩ v) g e N k f :=
  h.block (Below.heap_setCell _ _ _ _ hx)
theorem RowOf.step {w : World} {g : Nat} {e : TypeId} {N k : Nat} {f : Nat → Value} (h : RowOf w g e N k f) (hk : k < N) : RowOf (w.setCell ⟨g, k, none⟩ (f k)) g e N (k + 1) f := by
  obtain ⟨cur, h1, h2, h3⟩ := h
  refine ⟨cur.setIfInBounds k (f k), heap_setCell_same w g k cur e _ h1, by simpa using h2, fun i hi => ?_⟩
  rw [Array.getElem?_setIfInBounds]
  by_cases c : k = i
  · subst c; simp; omega
  · rw [if_neg c]; exact h3 i (by omega)
theorem RowOf.congr {w : World} {g : Nat} {e : TypeId} {N k : Nat} {f f' : Nat → Value} (h : RowOf w g e N k f) (hf : ∀ i, i < k → f i = f' i) : RowOf w g e N k f' := by
  obtain ⟨cur, h1, h2, h3⟩ := h
  exact ⟨cur, h1, h2, fun i hi => by rw [h3 i hi, hf i hi]⟩

/-- The transactions (blocks B, B + 1, B + 2), the array of them (B + 3), the request (B + 4), the table. -/
structure Base (w : World) (B : Nat) (tab : Bool) (rm rk h : Int) : Prop where
  table : Table w
  t0 : TrxAt w B
  t1 : TrxAt w (B + 1)
  t2 : TrxAt w (B + 1 + 1)
  a0 : w.cell? ⟨B + 1 + 1 + 1, 0, none⟩ = some (.pointer (some ⟨B, 0, none⟩))
  a1 : w.cell? ⟨B + 1 + 1 + 1, 1, none⟩ = some (.pointer (some ⟨B + 1, 0, none⟩))
  a2 : w.cell? ⟨B + 1 + 1 + 1, 2, none⟩ = some (.pointer (some ⟨B + 1 + 1, 0, none⟩))
  r : LockAt w (B + 1 + 1 + 1 + 1) B tab rm rk h false

/-- Nothing turns outside the blocks from lo up to hi. -/
structure Stay (lo hi : Nat) (w w' : World) : Prop where
  size : w.heap.size ≤ w'.heap.size
  block : ∀ b, b < w.heap.size → (b < lo ∨ hi ≤ b) → w'.heap[b]? = w.heap[b]?

theorem Stay.cell {lo hi : Nat} {w w' : World} (s : Stay lo hi w w') {x o : Nat} {v : Value} (hv : w.cell? ⟨x, o, none⟩ = some v) (hx : x < lo ∨ hi ≤ x) : w'.cell? ⟨x, o, none⟩ = some v :=
  (World.cell?_of_block (a := ⟨x, o, none⟩) (s.block x (World.block_lt_of_cell? w _ hv) hx)).trans hv
theorem Stay.trxAt {lo hi : Nat} {w w' : World} (s : Stay lo hi w w') {t : Nat} (h : TrxAt w t) (hx : t < lo ∨ hi ≤ t) : TrxAt w' t := by
  obtain ⟨c, h1, h2⟩ := h
  exact ⟨c, (s.block t (lt_of_block h1) hx).trans h1, h2⟩
theorem Stay.base {B hi : Nat} {w w' : World} (s : Stay (B + 5) hi w w') (h4 : 4 < B) {tab : Bool} {rm rk h : Int} (b : Base w B tab rm rk h) : Base w' B tab rm rk h := by
  have hc : ∀ {x o v}, w.cell? ⟨x, o, none⟩ = some v → x < B + 5 → w'.cell? ⟨x, o, none⟩ = some v := fun {x o v} hv hx => s.cell hv (.inl hx)
  refine ⟨fun l r hl hr => hc (b.table l r hl hr) (by omega), s.trxAt b.t0 (.inl (by omega)), s.trxAt b.t1 (.inl (by omega)), s.trxAt b.t2 (.inl (by omega)), hc b.a0 (by omega), hc b.a1 (by omega), hc b.a2 (by omega), ?_⟩
  have l := b.r
  refine ⟨hc l.trx (by omega), hc l.space (by omega), hc l.page (by omega), hc l.heap (by omega), hc l.onTable (by omega), hc l.mode (by omega), hc l.kind (by omega), ?_⟩
  rcases l.waited with ⟨e, h10⟩ | ⟨e, _⟩
  · exact .inl ⟨e, hc h10 (by omega)⟩
  · simp at e

/-- Behind k rounds. -/
structure Built (w wr : World) (B N k : Nat) (tab : Bool) (rm rk h : Int) (lm lk : Nat → Int) (tx : Nat → Nat) (wd : Nat → Bool) (lb : Nat → Nat) : Prop where
  base : Base wr B tab rm rk h
  ws : RowOf wr (B + 5) 82 N k fun i => .pointer (some ⟨lb i, 0, none⟩)
  lms : RowOf wr (B + 6) 5 N k fun i => .int .u8 (lm i)
  lks : RowOf wr (B + 7) 5 N k fun i => .int .u8 (lk i)
  lock : ∀ i, i < k → LockAt wr (lb i) (B + tx i) tab (lm i) (lk i) h (wd i)
  far : ∀ i, i < k → B + 8 ≤ lb i
  farg : ∀ i, i < k → ∀ g, wr.cell? ⟨lb i, 10, none⟩ = some (.pointer (some ⟨g, 0, none⟩)) → B + 8 ≤ g
  size : B + 8 ≤ wr.heap.size
  below : Below B w wr
  four : 4 < B

/-- A lock far from the three rows stays. -/
theorem Stay.lock {lo hi : Nat} {w w' : World} (s : Stay lo hi w w') {b t : Nat} {tab wd : Bool} {m k h : Int} (l : LockAt w b t tab m k h wd) (hb : hi ≤ b) (hg : ∀ g, w.cell? ⟨b, 10, none⟩ = some (.pointer (some ⟨g, 0, none⟩)) → hi ≤ g) :
    LockAt w' b t tab m k h wd ∧ ∀ g, w'.cell? ⟨b, 10, none⟩ = some (.pointer (some ⟨g, 0, none⟩)) → hi ≤ g := by
  have hc : ∀ {x o v}, w.cell? ⟨x, o, none⟩ = some v → hi ≤ x → w'.cell? ⟨x, o, none⟩ = some v := fun {x o v} hv hx => s.cell hv (.inr hx)
  have hw : (wd = false ∧ w'.cell? ⟨b, 10, none⟩ = some (.pointer none)) ∨ (wd = true ∧ ∃ g, w'.cell? ⟨b, 10, none⟩ = some (.pointer (some ⟨g, 0, none⟩)) ∧ w'.cell? ⟨g, 3, none⟩ = some (.bool true) ∧ hi ≤ g) := by
    rcases l.waited with ⟨e, h10⟩ | ⟨e, g, h10, h3⟩
    · exact .inl ⟨e, hc h10 hb⟩
    · exact .inr ⟨e, g, hc h10 hb, hc h3 (hg g h10), hg g h10⟩
  refine ⟨⟨hc l.trx hb, hc l.space hb, hc l.page hb, hc l.heap hb, hc l.onTable hb, hc l.mode hb, hc l.kind hb, ?_⟩, ?_⟩
  · rcases hw with ⟨e, h10⟩ | ⟨e, g, h10, h3, _⟩
    · exact .inl ⟨e, h10⟩
    · exact .inr ⟨e, g, h10, h3⟩
  · intro g hg'
    rcases hw with ⟨e, h10⟩ | ⟨e, g2, h10, h3, h4⟩
    · rw [h10] at hg'; simp at hg'
    · rw [h10] at hg'; simp at hg'; omega

theorem stay_of_below {lo hi : Nat} {w w' : World} (hb : Below w.heap.size w w') : Stay lo hi w w' := ⟨hb.size, fun b hb' _ => hb.block b hb'⟩
theorem stay_setCell {lo hi : Nat} (w : World) {x o : Nat} (h1 : lo ≤ x) (h2 : x < hi) (v : Value) : Stay lo hi w (w.setCell ⟨x, o, none⟩ v) :=
  ⟨by simp [World.setCell], fun b _ hb => Below.heap_setCell _ _ _ _ (by simp; omega)⟩
theorem Stay.trans {lo hi : Nat} {a b c : World} (h : Stay lo hi a b) (k : Stay lo hi b c) : Stay lo hi a c :=
  ⟨Nat.le_trans h.size k.size, fun i hi' hx => (k.block i (Nat.lt_of_lt_of_le hi' h.size) hx).trans (h.block i hi' hx)⟩

/-- One round more: a lock built in new blocks (world w6), then the three stores. -/
theorem Built.step {w wr w6 : World} {B N k : Nat} {tab : Bool} {rm rk h : Int} {lm lk : Nat → Int} {tx : Nat → Nat} {wd : Nat → Bool} {lb : Nat → Nat} (b : Built w wr B N k tab rm rk h lm lk tx wd lb) (hk : k < N)
    (h6 : Below wr.heap.size wr w6) {LB : Nat} (hl : LockAt w6 LB (B + tx k) tab (lm k) (lk k) h (wd k)) (hLB : wr.heap.size ≤ LB) (hg : ∀ g, w6.cell? ⟨LB, 10, none⟩ = some (.pointer (some ⟨g, 0, none⟩)) → wr.heap.size ≤ g) :
    Built w (((w6.setCell ⟨B + 5, k, none⟩ (.pointer (some ⟨LB, 0, none⟩))).setCell ⟨B + 6, k, none⟩ (.int .u8 (lm k))).setCell ⟨B + 7, k, none⟩ (.int .u8 (lk k))) B N (k + 1) tab rm rk h lm lk tx wd (fun i => if i = k then LB else lb i) := by
  have s6 : Stay (B + 5) (B + 8) wr w6 := stay_of_below h6
  have s7 : Stay (B + 5) (B + 8) w6 (((w6.setCell ⟨B + 5, k, none⟩ (.pointer (some ⟨LB, 0, none⟩))).setCell ⟨B + 6, k, none⟩ (.int .u8 (lm k))).setCell ⟨B + 7, k, none⟩ (.int .u8 (lk k))) :=
    ((stay_setCell w6 (by omega) (by omega) _).trans (stay_setCell _ (by omega) (by omega) _)).trans (stay_setCell _ (by omega) (by omega) _)
  have hsz := b.size
  have r6 : ∀ {g e N' f}, RowOf wr g e N' k f → RowOf w6 g e N' k f := fun {g e N' f} r => r.block (h6.block g r.lt)
  have ws' : RowOf w6 (B + 5) 82 N k fun i => .pointer (some ⟨if i = k then LB else lb i, 0, none⟩) := (r6 b.ws).congr fun i hi => by simp [show ¬ i = k by omega]
  have ws1 : RowOf (w6.setCell ⟨B + 5, k, none⟩ (.pointer (some ⟨LB, 0, none⟩))) (B + 5) 82 N (k + 1) fun i => .pointer (some ⟨if i = k then LB else lb i, 0, none⟩) := by
    have := ws'.step hk
    simpa using this
  refine ⟨(s6.trans s7).base b.four b.base, (ws1.other (by omega) _).other (by omega) _, ((r6 b.lms).other (by omega) _ |>.step hk).other (by omega) _, (((r6 b.lks).other (by omega) _).other (by omega) _).step hk, ?_, ?_, ?_, ?_, ?_, b.four⟩
  · intro i hi
    by_cases e : i = k
    · subst e
      simp only [if_true]
      exact (s7.lock hl (by omega) (fun g hg' => by have := hg g hg'; omega)).1
    · simp only [e, if_false]
      exact ((s6.trans s7).lock (b.lock i (by omega)) (b.far i (by omega)) (b.farg i (by omega))).1
  · intro i hi
    by_cases e : i = k
    · subst e; simp only [if_true]; omega
    · simp only [e, if_false]; exact b.far i (by omega)
  · intro i hi
    by_cases e : i = k
    · subst e
      simp only [if_true]
      exact (s7.lock hl (by omega) (fun g hg' => by have := hg g hg'; omega)).2
    · simp only [e, if_false]
      exact ((s6.trans s7).lock (b.lock i (by omega)) (b.far i (by omega)) (b.farg i (by omega))).2
  · have := (s6.trans s7).size; omega
  · exact (((b.below.trans (h6.mono (by omega))).setCell (by simp) _).setCell (by simp) _).setCell (by simp) _

/-- The world as the law has laid it ahead of its switch: five blocks. -/
structure Ready (w W : World) (tab : Bool) (h : Int) : Prop where
  base : Base W w.heap.size tab 0 0 h
  free : ∀ o, W.frozen? ⟨w.heap.size + 1 + 1 + 1 + 1, o, none⟩ = false
  size : W.heap.size = w.heap.size + 5
  below : Below w.heap.size w W

theorem heap_new (w : World) (o : Obj) : (w.alloc o).heap[w.heap.size]? = some o := by
  show (w.heap.push o)[w.heap.size]? = _
  simp

theorem ready_of (w : World) (C : Array Value) (tab : Bool) (h : Int) (h7 : C[7]? = some (.bool false)) (hT : Table w) :
    Ready w (((((w.alloc (.cells C 110)).alloc (.cells C 110)).alloc (.cells C 110)).alloc (.cells #[.pointer (some ⟨w.heap.size, 0, none⟩), .pointer (some ⟨w.heap.size + 1, 0, none⟩), .pointer (some ⟨w.heap.size + 1 + 1, 0, none⟩)] 131)).alloc
      (.cells #[.pointer (some ⟨w.heap.size, 0, none⟩), .int .u64 0, .int .u32 0, .int .u32 0, .int .u16 h, .bool tab, .int .u8 0, .int .u8 0, .bool false, .pointer none, .pointer none, .int .i32 0, .int .u32 0, .int .i64 0] 100)) tab h := by
  generalize eA : Obj.cells #[.pointer (some ⟨w.heap.size, 0, none⟩), .pointer (some ⟨w.heap.size + 1, 0, none⟩), .pointer (some ⟨w.heap.size + 1 + 1, 0, none⟩)] 131 = oA
  generalize eR : Obj.cells #[.pointer (some ⟨w.heap.size, 0, none⟩), .int .u64 0, .int .u32 0, .int .u32 0, .int .u16 h, .bool tab, .int .u8 0, .int .u8 0, .bool false, .pointer none, .pointer none, .int .i32 0, .int .u32 0, .int .i64 0] 100 = oR
  generalize eT : Obj.cells C 110 = oT
  have n0 : (((((w.alloc oT).alloc oT).alloc oT).alloc oA).alloc oR).heap[w.heap.size]? = some oT := by
    rw [Below.heap_alloc _ _ _ (by simp only [World.size_alloc]; omega), Below.heap_alloc _ _ _ (by simp only [World.size_alloc]; omega), Below.heap_alloc _ _ _ (by simp only [World.size_alloc]; omega), Below.heap_alloc _ _ _ (by simp only [World.size_alloc]; omega)]
    exact heap_new w oT
  have n1 : (((((w.alloc oT).alloc oT).alloc oT).alloc oA).alloc oR).heap[w.heap.size + 1]? = some oT := by
    rw [Below.heap_alloc _ _ _ (by simp only [World.size_alloc]; omega), Below.heap_alloc _ _ _ (by simp only [World.size_alloc]; omega), Below.heap_alloc _ _ _ (by simp only [World.size_alloc]; omega)]
    simpa only [World.size_alloc] using heap_new (w.alloc oT) oT
  have n2 : (((((w.alloc oT).alloc oT).alloc oT).alloc oA).alloc oR).heap[w.heap.size + 1 + 1]? = some oT := by
    rw [Below.heap_alloc _ _ _ (by simp only [World.size_alloc]; omega), Below.heap_alloc _ _ _ (by simp only [World.size_alloc]; omega)]
    simpa only [World.size_alloc] using heap_new ((w.alloc oT).alloc oT) oT
  have n3 : (((((w.alloc oT).alloc oT).alloc oT).alloc oA).alloc oR).heap[w.heap.size + 1 + 1 + 1]? = some oA := by
    rw [Below.heap_alloc _ _ _ (by simp only [World.size_alloc]; omega)]
    simpa only [World.size_alloc] using heap_new (((w.alloc oT).alloc oT).alloc oT) oA
  have n4 : (((((w.alloc oT).alloc oT).alloc oT).alloc oA).alloc oR).heap[w.heap.size + 1 + 1 + 1 + 1]? = some oR := by
    simpa only [World.size_alloc] using heap_new ((((w.alloc oT).alloc oT).alloc oT).alloc oA) oR
  have hb : Below w.heap.size w (((((w.alloc oT).alloc oT).alloc oT).alloc oA).alloc oR) :=
    (((((Below.refl _ _).alloc (Nat.le_refl _) _).alloc (by simp only [World.size_alloc]; omega) _).alloc (by simp only [World.size_alloc]; omega) _).alloc (by simp only [World.size_alloc]; omega) _).alloc (by simp only [World.size_alloc]; omega) _
  have hs : (((((w.alloc oT).alloc oT).alloc oT).alloc oA).alloc oR).heap.size = w.heap.size + 5 := by simp only [World.size_alloc]
  generalize (((((w.alloc oT).alloc oT).alloc oT).alloc oA).alloc oR) = W at n0 n1 n2 n3 n4 hb hs ⊢
  subst eA eR eT
  refine ⟨⟨hT.later hb, ⟨C, n0, h7⟩, ⟨C, n1, h7⟩, ⟨C, n2, h7⟩, by simp [World.cell?, n3], by simp [World.cell?, n3], by simp [World.cell?, n3], ⟨by simp [World.cell?, n4], by simp [World.cell?, n4], by simp [World.cell?, n4], by simp [World.cell?, n4], by simp [World.cell?, n4], by simp [World.cell?, n4], by simp [World.cell?, n4], .inl ⟨rfl, by simp [World.cell?, n4]⟩⟩⟩, fun o => by simp [World.frozen?, n4], hs, hb⟩

theorem info5 : (Ybad.prog.info? 5).map (fun i => (i.zero, i.size, i.bytes)) = some (some (.int .u8 0), 1, 1) := by kernel_rfl

theorem row_made {t e : TypeId} {z : Value} {by' : Nat} (hinfo : (Ybad.prog.info? e).map (fun i => (i.zero, i.size, i.bytes)) = some (some z, 1, by')) (ht : Ybad.prog.underlying t = some (.slice e)) (hb8 : by' ≤ 8) {N : Nat} (w : World) (hle : N ≤ 1024) (f : Nat → Value) :
    ∃ w1, (Instr.makeSlice t (.int .i64 N) (.int .i64 N)).run Ybad.prog w = .ok (.slice (some ⟨w.heap.size, 0, none⟩) N N) w1 ∧ RowOf w1 w.heap.size e N 0 f ∧ Below w.heap.size w w1 ∧ w1.heap.size = w.heap.size + 1 := by
  obtain ⟨i, hi, hz, hs, hby⟩ := info_parts hinfo
  have hbn : (i.bytes : Int) * (N : Int) ≤ 281474976710656 := by
    rw [hby]
    have := Nat.mul_le_mul hb8 hle
    have h2 : ((by' * N : Nat) : Int) = (by' : Int) * (N : Int) := Int.natCast_mul _ _
    omega
  have hrun := run_make (P := Ybad.prog) w t e i z ht hi hz .i64 .i64 N N (by omega) (Int.le_refl _) hbn (by omega)
  refine ⟨_, by simpa using hrun, ⟨_, heap_new w _, by simp [size_madeCells, hs], fun j hj => absurd hj (by omega)⟩, (Below.refl _ _).alloc (Nat.le_refl _) _, by simp⟩

/-- 'r.mode = ..; r.kind = ..', then the three rows. -/
theorem built_zero {w W : World} {tab : Bool} {h : Int} (R : Ready w W tab h) (h4 : 4 < w.heap.size) (rm rk : Int) {N : Nat} (hle : N ≤ 1024) (lm lk : Nat → Int) (tx : Nat → Nat) (wd : Nat → Bool) (lb : Nat → Nat) :
    ∃ w3 w4 w5, (Instr.makeSlice 84 (.int .i64 N) (.int .i64 N)).run Ybad.prog ((W.setCell ⟨w.heap.size + 1 + 1 + 1 + 1, 6, none⟩ (.int .u8 rm)).setCell ⟨w.heap.size + 1 + 1 + 1 + 1, 7, none⟩ (.int .u8 rk)) = .ok (.slice (some ⟨w.heap.size + 5, 0, none⟩) N N) w3 ∧
      (Instr.makeSlice 132 (.int .i64 N) (.int .i64 N)).run Ybad.prog w3 = .ok (.slice (some ⟨w.heap.size + 6, 0, none⟩) N N) w4 ∧ (Instr.makeSlice 132 (.int .i64 N) (.int .i64 N)).run Ybad.prog w4 = .ok (.slice (some ⟨w.heap.size + 7, 0, none⟩) N N) w5 ∧
      Built w w5 w.heap.size N 0 tab rm rk h lm lk tx wd lb := by
  have c6 := R.base.r.mode
  have c7 := R.base.r.kind
  have hB2 : Base ((W.setCell ⟨w.heap.size + 1 + 1 + 1 + 1, 6, none⟩ (.int .u8 rm)).setCell ⟨w.heap.size + 1 + 1 + 1 + 1, 7, none⟩ (.int .u8 rk)) w.heap.size tab rm rk h := by
    have ho : ∀ {x o v}, W.cell? ⟨x, o, none⟩ = some v → (x = w.heap.size + 1 + 1 + 1 + 1 → o ≠ 6 ∧ o ≠ 7) → ((W.setCell ⟨w.heap.size + 1 + 1 + 1 + 1, 6, none⟩ (.int .u8 rm)).setCell ⟨w.heap.size + 1 + 1 + 1 + 1, 7, none⟩ (.int .u8 rk)).cell? ⟨x, o, none⟩ = some v := by
      intro x o v hv hx
      rw [World.cell?_setCell_other _ _ _ _ (by intro e; simp only [Addr.mk.injEq] at e; have := hx e.1.symm; omega), World.cell?_setCell_other _ _ _ _ (by intro e; simp only [Addr.mk.injEq] at e; have := hx e.1.symm; omega)]
      exact hv
    have ht : ∀ {t}, TrxAt W t → t ≠ w.heap.size + 1 + 1 + 1 + 1 → TrxAt ((W.setCell ⟨w.heap.size + 1 + 1 + 1 + 1, 6, none⟩ (.int .u8 rm)).setCell ⟨w.heap.size + 1 + 1 + 1 + 1, 7, none⟩ (.int .u8 rk)) t := by
      rintro t ⟨c, h1, h2⟩ hne
      exact ⟨c, ((Below.heap_setCell _ _ _ _ hne).trans (Below.heap_setCell _ _ _ _ hne)).trans h1, h2⟩
    have b := R.base
    refine ⟨fun l r hl hr => ho (b.table l r hl hr) (fun e => by omega), ht b.t0 (by omega), ht b.t1 (by omega), ht b.t2 (by omega), ho b.a0 (fun e => by omega), ho b.a1 (fun e => by omega), ho b.a2 (fun e => by omega), ?_⟩
    refine ⟨ho b.r.trx (by simp), ho b.r.space (by simp), ho b.r.page (by simp), ho b.r.heap (by simp), ho b.r.onTable (by simp), ?_, ?_, ?_⟩
    · rw [World.cell?_setCell_other _ _ _ _ (by simp)]
      exact World.cell?_setCell_same _ _ _ c6
    · refine World.cell?_setCell_same _ _ _ (u := .int .u8 0) ?_
      rw [World.cell?_setCell_other _ _ _ _ (by simp)]
      exact c7
    · rcases b.r.waited with ⟨e, h10⟩ | ⟨e, _⟩
      · exact .inl ⟨rfl, ho h10 (by simp)⟩
      · simp at e
  have hw2 : Below w.heap.size w ((W.setCell ⟨w.heap.size + 1 + 1 + 1 + 1, 6, none⟩ (.int .u8 rm)).setCell ⟨w.heap.size + 1 + 1 + 1 + 1, 7, none⟩ (.int .u8 rk)) := (R.below.setCell (by simp; omega) _).setCell (by simp; omega) _
  have hs2 : ((W.setCell ⟨w.heap.size + 1 + 1 + 1 + 1, 6, none⟩ (.int .u8 rm)).setCell ⟨w.heap.size + 1 + 1 + 1 + 1, 7, none⟩ (.int .u8 rk)).heap.size = w.heap.size + 5 := by simpa [World.setCell] using R.size
  generalize ((W.setCell ⟨w.heap.size + 1 + 1 + 1 + 1, 6, none⟩ (.int .u8 rm)).setCell ⟨w.heap.size + 1 + 1 + 1 + 1, 7, none⟩ (.int .u8 rk)) = w2 at hB2 hw2 hs2 ⊢
  obtain ⟨w3, r3, o3, b3, s3⟩ := row_made info82 Ybad.underlying84 (by decide) w2 hle (fun i => .pointer (some ⟨lb i, 0, none⟩))
  obtain ⟨w4, r4, o4, b4, s4⟩ := row_made info5 Ybad.underlying132 (by decide) w3 hle (fun i => .int .u8 (lm i))
  obtain ⟨w5, r5, o5, b5, s5⟩ := row_made info5 Ybad.underlying132 (by decide) w4 hle (fun i => .int .u8 (lk i))
  rw [hs2] at r3 o3 b3 s3
  rw [s3] at r4 o4 b4 s4
  rw [s4] at r5 o5 b5 s5
  refine ⟨w3, w4, w5, r3, r4, r5, ?_⟩
  have hb35 : Below (w.heap.size + 5) w2 w5 := (b3.trans (b4.mono (by omega))).trans (b5.mono (by omega))
  refine ⟨Stay.base (hi := w.heap.size + 5) ⟨hb35.size, fun b hb _ => hb35.block b (by omega)⟩ h4 hB2, o3.block (((b5.block _ (by omega))).trans (b4.block _ (by omega))), o4.block (b5.block _ (by omega)), o5, fun i hi => absurd hi (by omega), fun i hi => absurd hi (by omega), fun i hi => absurd hi (by omega), by omega, hw2.trans (hb35.mono (by omega)), h4⟩
end Go.Proofs.YbulkajcDoor
