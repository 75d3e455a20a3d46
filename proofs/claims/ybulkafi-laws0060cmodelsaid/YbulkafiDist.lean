/-
  OUR OWN: THE PLAIN LAW of 'distance': no Go in sight.
-/
namespace Go.Proofs.Ybulkafi.Plain

/-- The last k letters of x are the first k letters of y. -/
def meet (x y : List UInt8) (k : Nat) : Bool := x.drop (x.length - k) == y.take k

/-- The greatest j ≤ k, j > 0, at which they meet; 0 where there is none. -/
def best (x y : List UInt8) : Nat → Nat
  | 0 => 0
  | k + 1 => if meet x y (k + 1) then k + 1 else best x y k

theorem best_le (x y : List UInt8) (k : Nat) : best x y k ≤ k := by
  induction k with
  | zero => exact Nat.le_refl _
  | succ k ih => unfold best; split <;> omega

theorem best_self (x : List UInt8) : best x x x.length = x.length := by
  cases h : x.length with
  | zero => rfl
  | succ k =>
    unfold best
    rw [if_pos]
    unfold meet
    rw [← h]
    simp

/-- The distance: y's length less the longest meeting. -/
def dist (x y : List UInt8) : Nat := y.length - best x y (min x.length y.length)

theorem dist_self (x : List UInt8) : dist x x = 0 := by
  unfold dist
  rw [Nat.min_self, best_self]
  omega

theorem dist_le (x y : List UInt8) : dist x y ≤ y.length := by unfold dist; omega

theorem meet_len (x y : List UInt8) (k : Nat) (_hx : k ≤ x.length) (_hy : k ≤ y.length) : meet x y k = true ↔ x.drop (x.length - k) = y.take k := by
  unfold meet; simp

theorem dist_zero (x y : List UInt8) : dist x y = 0 ↔ (y.length ≤ x.length ∧ x.drop (x.length - y.length) = y) := by
  have hb := best_le x y (min x.length y.length)
  constructor
  · intro h
    unfold dist at h
    have hmin : min x.length y.length = y.length := by omega
    have hle : y.length ≤ x.length := by omega
    refine ⟨hle, ?_⟩
    rw [hmin] at h hb
    cases hy : y.length with
    | zero => have : y = [] := List.eq_nil_of_length_eq_zero hy; subst this; simp
    | succ k =>
      rw [hy] at h hb
      unfold best at h
      split at h
      · rename_i hm
        have := (meet_len x y (k + 1) (by omega) (by omega)).1 hm
        rw [this, ← hy]
        simp
      · have := best_le x y k
        omega
  · rintro ⟨hle, he⟩
    unfold dist
    rw [Nat.min_eq_right hle]
    cases hy : y.length with
    | zero => simp
    | succ k =>
      unfold best
      rw [if_pos]
      · omega
      · rw [meet_len x y _ (by omega) (by omega), ← hy, he]
        simp

/-- The first letters alone are asked first. -/
theorem meet_head (x y : List UInt8) (k : Nat) (h0 : 0 < k) (hx : k ≤ x.length) (hy : k ≤ y.length) (h : x[x.length - k]? ≠ y[0]?) : meet x y k = false := by
  cases hm : meet x y k with
  | false => rfl
  | true =>
    exfalso
    have e := (meet_len x y k hx hy).1 hm
    apply h
    have h1 : (x.drop (x.length - k))[0]? = x[x.length - k]? := by simp
    have h2 : (y.take k)[0]? = y[0]? := by rw [List.getElem?_take_of_lt h0]
    rw [← h1, ← h2, e]

/-- Letter by letter: the two agree on the first i of the k letters. -/
def agree (x y : List UInt8) (k i : Nat) : Prop := ∀ j, j < i → x[x.length - k + j]? = y[j]?

theorem agree_meet (x y : List UInt8) (k : Nat) (hx : k ≤ x.length) (hy : k ≤ y.length) : agree x y k k ↔ meet x y k = true := by
  rw [meet_len x y k hx hy]
  constructor
  · intro h
    apply List.ext_getElem?
    intro j
    by_cases hj : j < k
    · rw [List.getElem?_drop, List.getElem?_take_of_lt hj]
      exact h j hj
    · rw [List.getElem?_eq_none (by simp; omega), List.getElem?_eq_none (by simp; omega)]
  · intro e j hj
    have h1 : (x.drop (x.length - k))[j]? = x[x.length - k + j]? := by rw [List.getElem?_drop]
    have h2 : (y.take k)[j]? = y[j]? := List.getElem?_take_of_lt hj
    rw [← h1, ← h2, e]

theorem best_succ_yes (x y : List UInt8) (k : Nat) (h : meet x y (k + 1) = true) : best x y (k + 1) = k + 1 := by unfold best; rw [if_pos h]
theorem best_succ_no (x y : List UInt8) (k : Nat) (h : meet x y (k + 1) = false) : best x y (k + 1) = best x y k := by
  show (if meet x y (k + 1) then k + 1 else best x y k) = _
  rw [if_neg (by simp [h])]
end Go.Proofs.Ybulkafi.Plain
