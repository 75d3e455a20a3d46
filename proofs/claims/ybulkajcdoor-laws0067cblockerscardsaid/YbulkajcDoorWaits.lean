/-
  OUR OWN: 'withdrawn' (26), 'waitsFor' (40), 'waitsForAhead' (27), 'mayUpgrade' (38), 'upgrades' (25).
-/
import Derived.Test.YbulkajcDoorLocks
import Derived.RegionTactic
namespace Go.Proofs.YbulkajcDoor
open Go.RowKit

/-- Block t is a transaction, of no high priority. -/
def TrxAt (w : World) (t : Nat) : Prop := ∃ c : Array Value, w.heap[t]? = some (.cells c 110 (0, 0)) ∧ c[7]? = some (.bool false)

theorem TrxAt.high {w : World} {t : Nat} (h : TrxAt w t) : w.cell? ⟨t, 7, none⟩ = some (.bool false) := by
  obtain ⟨c, h1, h2⟩ := h
  simp [World.cell?, h1, h2]

theorem run_neq_ptr_other {P : Program} (w : World) {tp te : TypeId} {j : TypeInfo} {a b : Addr} {ca cb : Array Value} {ta tb : TypeId} (hp : P.underlying tp = some (.pointer te)) (hte : P.info? te = some j) (hsz : j.size ≠ 0)
    (hne : a ≠ b) (ha : w.heap[a.block]? = some (.cells ca ta (0, 0))) (hb : w.heap[b.block]? = some (.cells cb tb (0, 0))) :
    (binOp .neq tp (.pointer (some a)) (.pointer (some b))).run P w = .ok (.bool true) w := by
  have h : ∀ d : Nat, (Op.equalIn (d + 1) tp (.pointer (some a)) (.pointer (some b))).run P w = .ok false w := fun d => by
    simp [Op.equalIn, run_underlying hp, sizeOf, typeInfo, hte, hsz, run_sameAddr_other w hne ha hb]
  simp only [binOp]
  simp [Op.equal, Op.maxDepth, h 9999]

theorem info110 : (Ybad.prog.info? 110).map (fun i => decide (i.size ≠ 0)) = some true := by kernel_rfl

theorem trx_ne {w : World} {a b : Nat} (ha : TrxAt w a) (hb : TrxAt w b) : (binOp .neq 79 (.pointer (some ⟨a, 0, none⟩)) (.pointer (some ⟨b, 0, none⟩))).run Ybad.prog w = .ok (.bool (a != b)) w := by
  obtain ⟨j, hj, hs⟩ := Option.map_eq_some_iff.1 info110
  have hs' : j.size ≠ 0 := by simpa using hs
  by_cases e : a = b
  · subst e
    rw [Lib.run_neq_ptr_same w _ Ybad.underlying79 hj]
    simp
  · obtain ⟨ca, h1, _⟩ := ha
    obtain ⟨cb, h2, _⟩ := hb
    rw [run_neq_ptr_other w Ybad.underlying79 hj hs' (by intro h; simp only [Addr.mk.injEq] at h; omega) h1 h2]
    simp [e]
theorem trx_eq {w : World} {a b : Nat} (ha : TrxAt w a) (hb : TrxAt w b) : (binOp .eql 79 (.pointer (some ⟨a, 0, none⟩)) (.pointer (some ⟨b, 0, none⟩))).run Ybad.prog w = .ok (.bool (a == b)) w := by
  obtain ⟨j, hj, hs⟩ := Option.map_eq_some_iff.1 info110
  have hs' : j.size ≠ 0 := by simpa using hs
  by_cases e : a = b
  · subst e
    rw [run_eql_ptr_same w _ Ybad.underlying79 hj]
    simp
  · obtain ⟨ca, h1, _⟩ := ha
    obtain ⟨cb, h2, _⟩ := hb
    rw [run_eql_ptr_other w Ybad.underlying79 hj hs' (by intro h; simp only [Addr.mk.injEq] at h; omega) h1 h2]
    simp [e]

set_option maxHeartbeats 400000 in
theorem withdrawn_any (b t : Nat) (tab wd : Bool) (m k h : Int) (w : World) (hl : LockAt w b t tab m k h wd) :
    Calls Ybad.prog 26 #[.pointer (some ⟨b, 0, none⟩)] w fun e w' => e = .returned (.bool wd) ∧ w' = w := by
  rcases hl.waited with ⟨rfl, h10⟩ | ⟨rfl, g, h10, h3⟩
  all_goals
    clear hl
    go_enter Ybad.func26, Ybad.ntmps26
    go_wp2
    go_ret
    exact ⟨rfl, rfl⟩

set_option maxHeartbeats 1000000 in
theorem waitsFor_any (rb lb rt lt : Nat) (tab rw' lw : Bool) (rm rk lm lk h : Int) (w : World) (hr : LockAt w rb rt tab rm rk h rw') (hl : LockAt w lb lt tab lm lk h lw) (hT : Table w) (tr : TrxAt w rt) (tl : TrxAt w lt)
    (m1 : 0 ≤ rm) (m2 : rm < 5) (m3 : 0 ≤ lm) (m4 : lm < 5) (hrow : tab = false → (rm = 2 ∨ rm = 3) ∧ (lm = 2 ∨ lm = 3)) (k2 : lk ≤ 3) :
    Calls Ybad.prog 40 #[.pointer (some ⟨rb, 0, none⟩), .pointer (some ⟨lb, 0, none⟩)] w fun e w' => e = .returned (.bool ((lt != rt) && Plain.waits tab rm rk lm lk h)) ∧ ∃ n, w' = w.drewN n := by
  have r0 := hr.trx; have l0 := hl.trx
  have hne : ∀ n, (binOp .neq 79 (.pointer (some ⟨lt, 0, none⟩)) (.pointer (some ⟨rt, 0, none⟩))).run Ybad.prog (w.drewN n) = .ok (.bool (lt != rt)) (w.drewN n) := fun n => trx_ne (w := w.drewN n) tl tr
  have hcls := fun n => classOf_any rb lb rt lt tab rw' lw rm rk lm lk h (w.drewN n) ⟨hr.trx, hr.space, hr.page, hr.heap, hr.onTable, hr.mode, hr.kind, hr.waited⟩ ⟨hl.trx, hl.space, hl.page, hl.heap, hl.onTable, hl.mode, hl.kind, hl.waited⟩ hT m1 m2 m3 m4 hrow k2
  generalize Plain.waits tab rm rk lm lk h = v at hcls ⊢
  have HC : Hid (∀ n, Calls Ybad.prog 50 #[.pointer (some ⟨rb, 0, none⟩), .pointer (some ⟨lb, 0, none⟩)] (w.drewN n) fun e w' => e = .returned (.bool v) ∧ ∃ m, w' = (w.drewN n).drewN m) := hcls
  clear hcls hr hl hT tr tl hrow m1 m2 m3 m4 k2
  cases hd : (lt != rt)
  all_goals
    rw [hd] at hne
    go_enter Ybad.func40, Ybad.ntmps40
    go_wp2_with fail
    go_quiet ((go_at_call 50; exact Calls.quiet_of (HC.out _)))
    go_wp2
    go_ret
    exact ⟨ret_bool (by simp), _, rfl⟩

set_option maxHeartbeats 1000000 in
theorem waitsForAhead_any (rb lb rt lt : Nat) (tab rw' lw : Bool) (rm rk lm lk h : Int) (w : World) (hr : LockAt w rb rt tab rm rk h rw') (hl : LockAt w lb lt tab lm lk h lw) (hT : Table w) (tr : TrxAt w rt) (tl : TrxAt w lt)
    (m1 : 0 ≤ rm) (m2 : rm < 5) (m3 : 0 ≤ lm) (m4 : lm < 5) (hrow : tab = false → (rm = 2 ∨ rm = 3) ∧ (lm = 2 ∨ lm = 3)) (k2 : lk ≤ 3) :
    Calls Ybad.prog 27 #[.pointer (some ⟨rb, 0, none⟩), .pointer (some ⟨lb, 0, none⟩), .bool false, .bool false] w fun e w' => e = .returned (.bool ((lt != rt) && Plain.waits tab rm rk lm lk h)) ∧ ∃ n, w' = w.drewN n := by
  have r0 := hr.trx
  have hh := tr.high
  have hc := waitsFor_any rb lb rt lt tab rw' lw rm rk lm lk h w hr hl hT tr tl m1 m2 m3 m4 hrow k2
  generalize ((lt != rt) && Plain.waits tab rm rk lm lk h) = v at hc ⊢
  have HC : Hid (Calls Ybad.prog 40 #[.pointer (some ⟨rb, 0, none⟩), .pointer (some ⟨lb, 0, none⟩)] w fun e w' => e = .returned (.bool v) ∧ ∃ m, w' = w.drewN m) := hc
  clear hc hr hl hT tr tl hrow m1 m2 m3 m4 k2
  cases v
  all_goals
    go_enter Ybad.func27, Ybad.ntmps27
    go_wp2_with (go_at_call 40; refine HC.out.mono ?_; rintro e w1 ⟨rfl, n, rfl⟩)
    go_ret
    exact ⟨rfl, _, rfl⟩

set_option maxHeartbeats 1000000 in
theorem mayUpgrade_no (b t : Nat) (tab wd : Bool) (m k h : Int) (w : World) (hl : LockAt w b t tab m k h wd) (hup : tab = false → m = 3 → k = 3) :
    Calls Ybad.prog 38 #[.pointer (some ⟨b, 0, none⟩)] w fun e w' => e = .returned (.bool false) ∧ w = w' := by
  have h5 := hl.onTable; have h6 := hl.mode; have h7 := hl.kind
  clear hl
  cases tab with
  | true =>
    clear hup
    go_enter Ybad.func38, Ybad.ntmps38
    go_wp2
    go_ret
    exact ⟨rfl, rfl⟩
  | false =>
    by_cases e : m = 3
    · obtain rfl := hup rfl e
      subst e
      clear hup
      go_enter Ybad.func38, Ybad.ntmps38
      go_wp2
      go_ret
      exact ⟨rfl, rfl⟩
    · have e' : (m == 3) = false := beq_eq_false_iff_ne.2 e
      clear hup e
      go_enter Ybad.func38, Ybad.ntmps38
      go_wp2
      go_ret
      exact ⟨rfl, rfl⟩

theorem LockAt.later {w w' : World} {b t : Nat} {tab wd : Bool} {m k h : Int} (hl : LockAt w b t tab m k h wd) (hb : Below w.heap.size w w') : LockAt w' b t tab m k h wd := by
  have hc : ∀ {x o v}, w.cell? ⟨x, o, none⟩ = some v → w'.cell? ⟨x, o, none⟩ = some v := fun {x o v} hv => (hb.cell (p := ⟨x, o, none⟩) (World.block_lt_of_cell? w _ hv)).trans hv
  refine ⟨hc hl.trx, hc hl.space, hc hl.page, hc hl.heap, hc hl.onTable, hc hl.mode, hc hl.kind, ?_⟩
  rcases hl.waited with ⟨e, h10⟩ | ⟨e, g, h10, h3⟩
  · exact .inl ⟨e, hc h10⟩
  · exact .inr ⟨e, g, hc h10, hc h3⟩
theorem TrxAt.later {w w' : World} {t : Nat} (ht : TrxAt w t) (hb : Below w.heap.size w w') : TrxAt w' t := by
  obtain ⟨c, h1, h2⟩ := ht
  exact ⟨c, (hb.block t (Array.getElem?_eq_some_iff.1 h1).1).trans h1, h2⟩
theorem Table.later {w w' : World} (ht : Table w) (hb : Below w.heap.size w w') : Table w' := fun l r hl hr =>
  (hb.cell (p := ⟨4, l * 5 + r, none⟩) (World.block_lt_of_cell? w _ (ht l r hl hr))).trans (ht l r hl hr)

set_option maxHeartbeats 1000000 in
theorem upgrades_no (q : Value) (b t : Nat) (tab wd : Bool) (m k h : Int) (w : World) (hl : LockAt w b t tab m k h wd) (hup : tab = false → m = 3 → k = 3) :
    Calls Ybad.prog 25 #[q, .pointer (some ⟨b, 0, none⟩)] w fun e w' => e = .returned (.bool false) ∧ Below w.heap.size w w' := by
  have h0 := hl.trx; have h2 := hl.space; have h3 := hl.page; have h4 := hl.heap
  have hm : ∀ w', Below w.heap.size w w' → Calls Ybad.prog 38 #[.pointer (some ⟨b, 0, none⟩)] w' fun e w'' => e = .returned (.bool false) ∧ w' = w'' := fun w' hb => mayUpgrade_no b t tab wd m k h w' (hl.later hb) hup
  have HM : Hid (∀ w', Below w.heap.size w w' → Calls Ybad.prog 38 #[.pointer (some ⟨b, 0, none⟩)] w' fun e w'' => e = .returned (.bool false) ∧ w' = w'') := hm
  have al : ∀ {o x v}, w.cell? ⟨b, x, none⟩ = some v → (w.alloc o).cell? ⟨b, x, none⟩ = some v := fun {o x v} hv => (((Below.refl _ _).alloc (Nat.le_refl _) o).cell (p := ⟨b, x, none⟩) (World.block_lt_of_cell? w _ hv)).trans hv
  have a0 := fun o => al (o := o) h0
  have a2 := fun o => al (o := o) h2
  have a3 := fun o => al (o := o) h3
  have a4 := fun o => al (o := o) h4
  clear hm hl hup al
  go_enter Ybad.func25, Ybad.ntmps25
  go_wp2_with fail
  go_region
  go_wp2_with fail
  refine (HM.out _ (((Below.refl _ _).alloc (Nat.le_refl _) _).drew)).mono ?_
  rintro e w1 ⟨rfl, rfl⟩
  go_wp2_with fail
  go_ret
  exact ⟨rfl, ((Below.refl _ _).alloc (Nat.le_refl _) _).drew⟩
end Go.Proofs.YbulkajcDoor
