/-
  OUR OWN: all that the look at the waiting requests reads, in one word; what stays of it while 'got' grows.
-/
import Derived.Test.YbulkajcDoorYield
namespace Go.Proofs.YbulkajcDoor
open Go.RowKit

/-- N waiting requests (their blocks lb, transactions tb, modes lm, kinds lk, withdrawn or not) in the row at block wsB; the request at block rb. -/
structure Scene (w : World) (N wsB : Nat) (lb tb : Nat → Nat) (lm lk : Nat → Int) (wd : Nat → Bool) (tab : Bool) (rb rt : Nat) (rm rk h : Int) : Prop where
  table : Table w
  r : LockAt w rb rt tab rm rk h false
  rtrx : TrxAt w rt
  ws : ∀ i, i < N → w.cell? ⟨wsB, i, none⟩ = some (.pointer (some ⟨lb i, 0, none⟩))
  lock : ∀ i, i < N → LockAt w (lb i) (tb i) tab (lm i) (lk i) h (wd i)
  trx : ∀ i, i < N → TrxAt w (tb i)
  rlo : 0 ≤ rm
  rhi : rm < 5
  rrow : tab = false → rm = 2 ∨ rm = 3
  rup : tab = false → rm = 3 → rk = 3
  llo : ∀ i, i < N → 0 ≤ lm i
  lhi : ∀ i, i < N → lm i < 5
  lrow : ∀ i, i < N → tab = false → lm i = 2 ∨ lm i = 3
  lkhi : ∀ i, i < N → lk i ≤ 3

/-- Whether the request waits for the i-th. -/
def hit (tb : Nat → Nat) (lm lk : Nat → Int) (wd : Nat → Bool) (tab : Bool) (rt : Nat) (rm rk h : Int) (i : Nat) : Bool := !wd i && ((tb i != rt) && Plain.waits tab rm rk (lm i) (lk i) h)

/-- A cell that is no slice at a block's head stays while block G, which holds a slice, is written. -/
theorem keeps_cell {G : Nat} {w w' : World} (hk : Keeps G w.heap.size w w') {sa : Option Addr} {sn sc : Nat} (hG : w.heap[G]? = some (.cells #[.slice sa sn sc] 84 (0, 0))) {x o : Nat} {v : Value} (hv : w.cell? ⟨x, o, none⟩ = some v)
    (hns : o = 0 → ∀ a n c, v ≠ .slice a n c) : w'.cell? ⟨x, o, none⟩ = some v := by
  have hlt : x < w.heap.size := World.block_lt_of_cell? w _ hv
  have hne : x ≠ G := by
    rintro rfl
    cases o with
    | zero =>
      have := cell_of_one hG
      rw [this] at hv
      exact hns rfl _ _ _ (Option.some.inj hv).symm
    | succ o => simp [World.cell?, hG] at hv
  exact (World.cell?_of_block (a := ⟨x, o, none⟩) (hk.block x hlt hne)).trans hv

theorem LockAt.keeps {G : Nat} {w w' : World} (hk : Keeps G w.heap.size w w') {sa : Option Addr} {sn sc : Nat} (hG : w.heap[G]? = some (.cells #[.slice sa sn sc] 84 (0, 0))) {b t : Nat} {tab wd : Bool} {m k h : Int} (hl : LockAt w b t tab m k h wd) : LockAt w' b t tab m k h wd := by
  have hc : ∀ {x o v}, w.cell? ⟨x, o, none⟩ = some v → (o = 0 → ∀ a n c, v ≠ .slice a n c) → w'.cell? ⟨x, o, none⟩ = some v := fun {x o v} hv hn => keeps_cell hk hG hv hn
  refine ⟨hc hl.trx (by simp), hc hl.space (by simp), hc hl.page (by simp), hc hl.heap (by simp), hc hl.onTable (by simp), hc hl.mode (by simp), hc hl.kind (by simp), ?_⟩
  rcases hl.waited with ⟨e, h10⟩ | ⟨e, g, h10, h3⟩
  · exact .inl ⟨e, hc h10 (by simp)⟩
  · exact .inr ⟨e, g, hc h10 (by simp), hc h3 (by simp)⟩

theorem TrxAt.keeps {G : Nat} {w w' : World} (hk : Keeps G w.heap.size w w') {c : Array Value} (hG : w.heap[G]? = some (.cells c 84 (0, 0))) {t : Nat} (ht : TrxAt w t) : TrxAt w' t := by
  obtain ⟨c', h1, h2⟩ := ht
  exact ⟨c', (hk.block t (lt_of_block h1) (by rintro rfl; rw [hG] at h1; simp at h1)).trans h1, h2⟩

theorem Scene.keeps {w w' : World} {N wsB : Nat} {lb tb : Nat → Nat} {lm lk : Nat → Int} {wd : Nat → Bool} {tab : Bool} {rb rt : Nat} {rm rk h : Int} (S : Scene w N wsB lb tb lm lk wd tab rb rt rm rk h)
    {G : Nat} (hk : Keeps G w.heap.size w w') {sa : Option Addr} {sn sc : Nat} (hG : w.heap[G]? = some (.cells #[.slice sa sn sc] 84 (0, 0))) : Scene w' N wsB lb tb lm lk wd tab rb rt rm rk h :=
  { table := fun l r hl hr => keeps_cell hk hG (S.table l r hl hr) (by simp)
    r := S.r.keeps hk hG
    rtrx := S.rtrx.keeps hk hG
    ws := fun i hi => keeps_cell hk hG (S.ws i hi) (by simp)
    lock := fun i hi => (S.lock i hi).keeps hk hG
    trx := fun i hi => (S.trx i hi).keeps hk hG
    rlo := S.rlo, rhi := S.rhi, rrow := S.rrow, rup := S.rup, llo := S.llo, lhi := S.lhi, lrow := S.lrow, lkhi := S.lkhi }

/-- The same scene behind draws. -/
theorem Scene.drewN {w : World} {N wsB : Nat} {lb tb : Nat → Nat} {lm lk : Nat → Int} {wd : Nat → Bool} {tab : Bool} {rb rt : Nat} {rm rk h : Int} (S : Scene w N wsB lb tb lm lk wd tab rb rt rm rk h) (n : Nat) :
    Scene (w.drewN n) N wsB lb tb lm lk wd tab rb rt rm rk h :=
  { table := S.table, r := ⟨S.r.trx, S.r.space, S.r.page, S.r.heap, S.r.onTable, S.r.mode, S.r.kind, S.r.waited⟩, rtrx := S.rtrx, ws := S.ws
    lock := fun i hi => have l := S.lock i hi; ⟨l.trx, l.space, l.page, l.heap, l.onTable, l.mode, l.kind, l.waited⟩
    trx := S.trx, rlo := S.rlo, rhi := S.rhi, rrow := S.rrow, rup := S.rup, llo := S.llo, lhi := S.lhi, lrow := S.lrow, lkhi := S.lkhi }

/-- 'withdrawn' at the i-th. -/
theorem Scene.withdrawn {w : World} {N wsB : Nat} {lb tb : Nat → Nat} {lm lk : Nat → Int} {wd : Nat → Bool} {tab : Bool} {rb rt : Nat} {rm rk h : Int} (S : Scene w N wsB lb tb lm lk wd tab rb rt rm rk h) (i : Nat) (hi : i < N) :
    Calls Ybad.prog 26 #[.pointer (some ⟨lb i, 0, none⟩)] w fun e w' => e = .returned (.bool (wd i)) ∧ w' = w := withdrawn_any _ _ _ _ _ _ _ _ (S.lock i hi)
/-- 'waitsForAhead' at the i-th. -/
theorem Scene.ahead {w : World} {N wsB : Nat} {lb tb : Nat → Nat} {lm lk : Nat → Int} {wd : Nat → Bool} {tab : Bool} {rb rt : Nat} {rm rk h : Int} (S : Scene w N wsB lb tb lm lk wd tab rb rt rm rk h) (i : Nat) (hi : i < N) :
    Calls Ybad.prog 27 #[.pointer (some ⟨rb, 0, none⟩), .pointer (some ⟨lb i, 0, none⟩), .bool false, .bool false] w fun e w' => e = .returned (.bool ((tb i != rt) && Plain.waits tab rm rk (lm i) (lk i) h)) ∧ ∃ n, w' = w.drewN n :=
  waitsForAhead_any rb (lb i) rt (tb i) tab false (wd i) rm rk (lm i) (lk i) h w S.r (S.lock i hi) S.table S.rtrx (S.trx i hi) S.rlo S.rhi (S.llo i hi) (S.lhi i hi) (fun e => ⟨S.rrow e, S.lrow i hi e⟩) (S.lkhi i hi)

/-- The requests that are waited for, among the first k, as pointers. -/
def hits (p : Nat → Bool) (lb : Nat → Nat) (k : Nat) : List Value := ((List.range k).filter p).map fun i => .pointer (some ⟨lb i, 0, none⟩)
theorem hits_zero (p : Nat → Bool) (lb : Nat → Nat) : hits p lb 0 = [] := rfl
theorem hits_yes {p : Nat → Bool} {lb : Nat → Nat} {k : Nat} (h : p k = true) : hits p lb (k + 1) = hits p lb k ++ [.pointer (some ⟨lb k, 0, none⟩)] := by
  simp [hits, List.range_succ, h]
theorem hits_no {p : Nat → Bool} {lb : Nat → Nat} {k : Nat} (h : p k = false) : hits p lb (k + 1) = hits p lb k := by
  simp [hits, List.range_succ, h]
theorem hits_le (p : Nat → Bool) (lb : Nat → Nat) (k : Nat) : (hits p lb k).length ≤ k := by
  have := List.length_filter_le p (List.range k)
  simpa [hits] using this
theorem hits_mono (p : Nat → Bool) (lb : Nat → Nat) {k n : Nat} (h : k ≤ n) : (hits p lb k).length ≤ (hits p lb n).length := by
  induction n with
  | zero => obtain rfl : k = 0 := by omega
            exact Nat.le_refl _
  | succ n ih =>
    by_cases e : k = n + 1
    · subst e; exact Nat.le_refl _
    · have := ih (by omega)
      cases hp : p n with
      | false => rw [hits_no hp]; exact this
      | true => rw [hits_yes hp]; simp; omega
/-- Once there are L, no more are taken. -/
theorem hits_take {p : Nat → Bool} {lb : Nat → Nat} {L k n : Nat} (hkn : k ≤ n) (hL : L ≤ (hits p lb k).length) : (hits p lb n).take L = (hits p lb k).take L := by
  induction n with
  | zero => obtain rfl : k = 0 := by omega
            rfl
  | succ n ih =>
    by_cases e : k = n + 1
    · subst e; rfl
    · rw [← ih (by omega)]
      cases hp : p n with
      | false => rw [hits_no hp]
      | true =>
        rw [hits_yes hp, List.take_append_of_le_length]
        have := hits_mono p lb (show k ≤ n by omega)
        omega
end Go.Proofs.YbulkajcDoor
