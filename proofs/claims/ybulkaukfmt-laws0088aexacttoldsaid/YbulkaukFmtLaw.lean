/-
  OUR OWN: THE WALKS OF 'Load.Validate' (function 7), 'OrderOptions.Validate' (function 5), 'zzs0088aok' (function 6) and of the law (function 3): FOR EVERY F.
-/
import Derived.Test.YbulkaukFmtErrorf
import Derived.BigQuiet
import Derived.Deep.QuietTactic
namespace Go.Proofs.YbulkaukFmt
open Go.RowKit Go.Extern.Stop Go.Stop Go.Extern

set_option maxHeartbeats 1000000 in
theorem load_ok (addr : ByteArray) (c d s : Int) (hc : 1 ≤ c) (hd : 0 < d) (w : World) :
    Calls Ybaf.prog 7 #[.agg #[.string addr, .int .i64 c, .int .i64 d, .int .u64 s]] w fun e w' => e = .returned .nilIface ∧ Below w.heap.size w w' := by
  have h1 : ¬ c < 1 := by omega
  have h2 : ¬ d ≤ 0 := by omega
  go_enter Ybaf.func7, Ybaf.ntmps7
  go_wp2_with fail
  go_ret
  exact ⟨rfl, (Below.refl _ w).alloc (Nat.le_refl _) _⟩

set_option maxHeartbeats 1000000 in
theorem load_clients (F : Interp) (addr : ByteArray) (c d s : Int) (hc : c < 1) (w : World) (hF : F.answers w.tape) :
    Calls Ybaf.prog 7 #[.agg #[.string addr, .int .i64 c, .int .i64 d, .int .u64 s]] w fun e w' => (∃ p, e = .returned (.iface 39 p)) ∧ Below w.heap.size w w' := by
  go_enter Ybaf.func7, Ybaf.ntmps7
  go_wp2_with fail
  go_at_call 8
  refine (errorf_clients F c _ _ (by exact hF) (by go_simp)).mono ?_
  rintro e w1 ⟨⟨p, rfl⟩, hB⟩
  have HB : Hid (Below w.heap.size w w1) := (((Below.refl _ w).alloc (Nat.le_refl _) _).alloc (by simp) _).trans (hB.mono (by simp; omega))
  clear hB
  go_wp2_with fail
  go_ret
  exact ⟨⟨_, rfl⟩, HB.out⟩

set_option maxHeartbeats 1000000 in
theorem load_dur (F : Interp) (addr : ByteArray) (c d s : Int) (hc : 1 ≤ c) (hd : d ≤ 0) (hlo : -9223372036854775808 ≤ d) (w : World) (hF : F.answers w.tape) :
    Calls Ybaf.prog 7 #[.agg #[.string addr, .int .i64 c, .int .i64 d, .int .u64 s]] w fun e w' => (∃ p, e = .returned (.iface 39 p)) ∧ Below w.heap.size w w' := by
  have h1 : ¬ c < 1 := by omega
  go_enter Ybaf.func7, Ybaf.ntmps7
  go_wp2_with fail
  go_at_call 8
  refine (errorf_duration F d hd hlo _ _ (by exact hF) (by go_simp)).mono ?_
  rintro e w1 ⟨⟨p, rfl⟩, hB⟩
  have HB : Hid (Below w.heap.size w w1) := (((Below.refl _ w).alloc (Nat.le_refl _) _).alloc (by simp) _).trans (hB.mono (by simp; omega))
  clear hB
  go_wp2_with fail
  go_ret
  exact ⟨⟨_, rfl⟩, HB.out⟩

/-- What 'Validate' answers: nil where 'ok' holds, an error where it does not. -/
def Answer (ok : Prop) (v : Value) : Prop := (v = .nilIface ∧ ok) ∨ ((∃ p, v = .iface 39 p) ∧ ¬ ok)

theorem load_w (F : Interp) (addr : ByteArray) (c d s : Int) (hlo : -9223372036854775808 ≤ d) (w : World) (hF : F.answers w.tape) :
    Calls Ybaf.prog 7 #[.agg #[.string addr, .int .i64 c, .int .i64 d, .int .u64 s]] w fun e w' => ∃ v, e = .returned v ∧ Answer (1 ≤ c ∧ 0 < d) v ∧ Below w.heap.size w w' := by
  by_cases hc : c < 1
  · refine (load_clients F addr c d s hc w hF).mono ?_
    rintro e w1 ⟨⟨p, rfl⟩, hB⟩
    exact ⟨_, rfl, Or.inr ⟨⟨_, rfl⟩, by omega⟩, hB⟩
  · by_cases hd : d ≤ 0
    · refine (load_dur F addr c d s (by omega) hd hlo w hF).mono ?_
      rintro e w1 ⟨⟨p, rfl⟩, hB⟩
      exact ⟨_, rfl, Or.inr ⟨⟨_, rfl⟩, by omega⟩, hB⟩
    · refine (load_ok addr c d s (by omega) (by omega) w).mono ?_
      rintro e w1 ⟨rfl, hB⟩
      exact ⟨_, rfl, Or.inl ⟨rfl, by omega⟩, hB⟩

set_option maxHeartbeats 1000000 in
theorem order_few (F : Interp) (addr : ByteArray) (c d s n : Int) (i : Bool) (hn : n < 6) (w : World) (hF : F.answers w.tape) :
    Calls Ybaf.prog 5 #[.agg #[.string addr, .int .i64 c, .int .i64 d, .int .u64 s, .int .i64 n, .bool i]] w fun e w' => (∃ p, e = .returned (.iface 39 p)) ∧ Below w.heap.size w w' := by
  go_enter Ybaf.func5, Ybaf.ntmps5
  go_wp2_with fail
  go_at_call 8
  refine (errorf_items F n 6 1000000 _ _ (by exact hF) (by go_simp) (by go_simp) (by go_simp)).mono ?_
  rintro e w1 ⟨⟨p, rfl⟩, hB⟩
  have HB : Hid (Below w.heap.size w w1) := (((Below.refl _ w).alloc (Nat.le_refl _) _).alloc (by simp) _).trans (hB.mono (by simp; omega))
  clear hB
  go_wp2_with fail
  go_ret
  exact ⟨⟨_, rfl⟩, HB.out⟩

set_option maxHeartbeats 1000000 in
theorem order_many (F : Interp) (addr : ByteArray) (c d s n : Int) (i : Bool) (hn : 1000000 < n) (w : World) (hF : F.answers w.tape) :
    Calls Ybaf.prog 5 #[.agg #[.string addr, .int .i64 c, .int .i64 d, .int .u64 s, .int .i64 n, .bool i]] w fun e w' => (∃ p, e = .returned (.iface 39 p)) ∧ Below w.heap.size w w' := by
  have h1 : ¬ n < 6 := by omega
  go_enter Ybaf.func5, Ybaf.ntmps5
  go_wp2_with fail
  go_at_call 8
  refine (errorf_items F n 6 1000000 _ _ (by exact hF) (by go_simp) (by go_simp) (by go_simp)).mono ?_
  rintro e w1 ⟨⟨p, rfl⟩, hB⟩
  have HB : Hid (Below w.heap.size w w1) := (((Below.refl _ w).alloc (Nat.le_refl _) _).alloc (by simp) _).trans (hB.mono (by simp; omega))
  clear hB
  go_wp2_with fail
  go_ret
  exact ⟨⟨_, rfl⟩, HB.out⟩

set_option maxHeartbeats 1000000 in
theorem order_fit (F : Interp) (addr : ByteArray) (c d s n : Int) (i : Bool) (h6 : 6 ≤ n) (hm : n ≤ 1000000) (hlo : -9223372036854775808 ≤ d) (w : World) (hF : F.answers w.tape) :
    Calls Ybaf.prog 5 #[.agg #[.string addr, .int .i64 c, .int .i64 d, .int .u64 s, .int .i64 n, .bool i]] w fun e w' => ∃ v, e = .returned v ∧ Answer (1 ≤ c ∧ 0 < d) v ∧ Below w.heap.size w w' := by
  have h1 : ¬ n < 6 := by omega
  have h2 : ¬ 1000000 < n := by omega
  go_enter Ybaf.func5, Ybaf.ntmps5
  go_wp2_with fail
  go_at_call 7
  refine (load_w F addr c d s hlo _ (by exact hF)).mono ?_
  rintro e w1 ⟨v, rfl, hv, hB⟩
  have HB : Hid (Below w.heap.size w w1) := ((Below.refl _ w).alloc (Nat.le_refl _) _).trans (hB.mono (by simp))
  have HV : Hid (Answer (1 ≤ c ∧ 0 < d) v) := hv
  clear hB hv
  go_wp2_with fail
  go_ret
  exact ⟨_, rfl, HV.out, HB.out⟩

theorem below_drewN {B : Nat} {a w : World} (h : Below B a w) (n : Nat) : Below B a (w.drewN n) := h.trans ⟨rfl, rfl, rfl, Nat.le_refl _, fun _ _ => rfl⟩

/-- The law's own word on the input. -/
def Good (n c d : Int) : Prop := 6 ≤ n ∧ n ≤ 1000000 ∧ 1 ≤ c ∧ 0 < d

theorem order_w (F : Interp) (addr : ByteArray) (c d s n : Int) (i : Bool) (hlo : -9223372036854775808 ≤ d) (w : World) (hF : F.answers w.tape) :
    Calls Ybaf.prog 5 #[.agg #[.string addr, .int .i64 c, .int .i64 d, .int .u64 s, .int .i64 n, .bool i]] w fun e w' => ∃ v, e = .returned v ∧ Answer (Good n c d) v ∧ Below w.heap.size w w' := by
  by_cases h1 : n < 6
  · refine (order_few F addr c d s n i h1 w hF).mono ?_
    rintro e w1 ⟨⟨p, rfl⟩, hB⟩
    exact ⟨_, rfl, Or.inr ⟨⟨_, rfl⟩, fun h => by have := h.1; omega⟩, hB⟩
  · by_cases h2 : 1000000 < n
    · refine (order_many F addr c d s n i h2 w hF).mono ?_
      rintro e w1 ⟨⟨p, rfl⟩, hB⟩
      exact ⟨_, rfl, Or.inr ⟨⟨_, rfl⟩, fun h => by have := h.2.1; omega⟩, hB⟩
    · refine (order_fit F addr c d s n i (by omega) (by omega) hlo w hF).mono ?_
      rintro e w1 ⟨v, rfl, hv, hB⟩
      refine ⟨v, rfl, ?_, hB⟩
      rcases hv with ⟨h, k⟩ | ⟨h, k⟩
      · exact Or.inl ⟨h, by omega, by omega, k⟩
      · exact Or.inr ⟨h, fun g => k g.2.2⟩

set_option maxHeartbeats 1000000 in
theorem ok_yes (n c d : Int) (h : Good n c d) (w : World) : Calls Ybaf.prog 6 #[.int .i64 n, .int .i64 c, .int .i64 d] w fun e w' => e = .returned (.bool true) ∧ w' = w := by
  obtain ⟨h1, h2, h3, h4⟩ := h
  go_enter Ybaf.func6, Ybaf.ntmps6
  go_wp2_with fail
  go_ret
  exact ⟨by simp [*], rfl⟩

set_option maxHeartbeats 1000000 in
theorem ok_no (n c d : Int) (h : ¬ Good n c d) (w : World) : Calls Ybaf.prog 6 #[.int .i64 n, .int .i64 c, .int .i64 d] w fun e w' => e = .returned (.bool false) ∧ w' = w := by
  unfold Good at h
  go_enter Ybaf.func6, Ybaf.ntmps6
  go_wp2_with fail
  · have hd : ¬ 0 < d := by omega
    go_ret
    exact ⟨by simp [hd], rfl⟩
  all_goals go_ret
  all_goals exact ⟨rfl, rfl⟩

set_option maxHeartbeats 1000000 in
theorem law_w (F : Interp) (addr : ByteArray) (n c d s : Int) (i : Bool) (hlo : -9223372036854775808 ≤ d) (w : World) (hF : F.answers w.tape) :
    Calls Ybaf.prog 3 #[.string addr, .int .i64 n, .int .i64 c, .int .i64 d, .int .u64 s, .bool i] w fun e w' => e = .returned (.bool true) ∧ Below w.heap.size w w' := by
  go_enter Ybaf.func3, Ybaf.ntmps3
  go_wp2_with fail
  go_at_call 5
  refine (order_w F addr c d s n i hlo _ (by exact hF)).mono ?_
  rintro e w1 ⟨v, rfl, hv, hB⟩
  have HB : Hid (Below w.heap.size w w1) := ((Below.refl _ w).alloc (Nat.le_refl _) _).trans (hB.mono (by simp))
  clear hB
  rcases hv with ⟨rfl, hg⟩ | ⟨⟨p, rfl⟩, hg⟩
  · have HG : Hid (Good n c d) := hg
    clear hg
    go_wp2_with fail
    go_quiet ((go_at_call 6; exact Calls.quiet_of_same (ok_yes n c d HG.out _)))
    go_wp2
    go_ret
    exact ⟨rfl, below_drewN HB.out _⟩
  · have HG : Hid (¬ Good n c d) := hg
    clear hg
    go_wp2_with fail
    go_quiet ((go_at_call 6; exact Calls.quiet_of_same (ok_no n c d HG.out _)))
    go_wp2
    go_ret
    exact ⟨rfl, below_drewN HB.out _⟩
end Go.Proofs.YbulkaukFmt
