/-
  OUR OWN: THE WALK OF 'LawS0060CBounds' (function 8); 'strings.HasSuffix' (14, 16) in Go's own text.
-/
import Derived.Test.YbulkafiDistance
namespace Go.Proofs.Ybulkafi
open Go.RowKit

theorem suffix_raw (x y : ByteArray) (h : y.size ≤ x.size) : ((x.extract (x.size - y.size) x.size).toList == y.toList) = decide (Plain.dist x.data.toList y.data.toList = 0) := by
  have lx : x.data.toList.length = x.size := by simp
  have ly : y.data.toList.length = y.size := by simp
  have ey : y.toList = y.data.toList := Lib.toList_data y
  rw [Lib.extract_toList, ey, List.take_of_length_le (by simp), Bool.eq_iff_iff, beq_iff_eq, decide_eq_true_iff, Plain.dist_zero, lx, ly]
  exact ⟨fun e => ⟨h, e⟩, fun e => e.2⟩

set_option maxHeartbeats 400000 in
theorem hasSuffix_any (x y : ByteArray) (w : World) (hx : x.size ≤ 4096) (hy : y.size ≤ 4096) :
    Calls Yba.prog 14 #[.string x, .string y] w fun e w' => e = .returned (.bool (decide (Plain.dist x.data.toList y.data.toList = 0))) ∧ w = w' := by
  by_cases h : y.size ≤ x.size
  · have hr := suffix_raw x y h
    have h1 : decide ((y.size : Int) ≤ (x.size : Int)) = true := decide_eq_true (by omega)
    have h2 : (y.size : Int) ≤ (x.size : Int) := by omega
    generalize decide (Plain.dist x.data.toList y.data.toList = 0) = b at hr ⊢
    go_enter Yba.func14, Yba.ntmps14
    go_wp2
    go_ret
    exact ⟨rfl, rfl⟩
  · have h1 : decide ((y.size : Int) ≤ (x.size : Int)) = false := decide_eq_false (by omega)
    have hd : decide (Plain.dist x.data.toList y.data.toList = 0) = false := decide_eq_false fun e => by
      have := ((Plain.dist_zero _ _).1 e).1
      simp at this
      omega
    rw [hd]
    have h3 : (x.size : Int) < (y.size : Int) := by omega
    clear hd h
    go_enter Yba.func14, Yba.ntmps14
    go_wp2
    go_ret
    exact ⟨rfl, rfl⟩

set_option maxHeartbeats 1000000 in
theorem cbounds_walk (x y : ByteArray) (w : World) :
    Calls Yba.prog 8 #[.string x, .string y] w fun e w' => e = .returned (.bool true) ∧ Below w.heap.size w w' := by
  by_cases hx : 4096 < x.size
  · have d0 : decide ((4096 : Int) < (x.size : Int)) = true := decide_eq_true (by omega)
    go_enter Yba.func8, Yba.ntmps8
    go_wp2_with fail
    go_ret
    exact ⟨rfl, Below.refl _ _⟩
  have d0 : decide ((4096 : Int) < (x.size : Int)) = false := decide_eq_false (by omega)
  by_cases hy : 4096 < y.size
  · have d1 : decide ((4096 : Int) < (y.size : Int)) = true := decide_eq_true (by omega)
    go_enter Yba.func8, Yba.ntmps8
    go_wp2_with fail
    go_ret
    exact ⟨rfl, Below.refl _ _⟩
  have d1 : decide ((4096 : Int) < (y.size : Int)) = false := decide_eq_false (by omega)
  have hx' : x.size ≤ 4096 := by omega
  have hy' : y.size ≤ 4096 := by omega
  clear hx hy
  have c1 := distance_any x x w (by omega) (by omega)
  rw [Plain.dist_self] at c1
  have c2 := fun n => distance_any x y (w.drewN n) (by omega) (by omega)
  have c3 := fun n => hasSuffix_any x y (w.drewN n) hx' hy'
  have hd : Plain.dist x.data.toList y.data.toList ≤ y.size := by
    have := Plain.dist_le x.data.toList y.data.toList
    simpa using this
  generalize Plain.dist x.data.toList y.data.toList = d at c2 c3 hd
  have C1 : Hid (Calls Yba.prog 12 #[.string x, .string x] w fun e w' => e = .returned (.int .i64 ((0 : Nat) : Int)) ∧ ∃ n, w' = w.drewN n) := c1
  have C2 : Hid (∀ n, Calls Yba.prog 12 #[.string x, .string y] (w.drewN n) fun e w' => e = .returned (.int .i64 (d : Int)) ∧ ∃ m, w' = (w.drewN n).drewN m) := c2
  have C3 : Hid (∀ n, Calls Yba.prog 14 #[.string x, .string y] (w.drewN n) fun e w' => e = .returned (.bool (decide (d = 0))) ∧ w.drewN n = w') := c3
  clear c1 c2 c3
  have l1 : decide ((d : Int) < 0) = false := decide_eq_false (by omega)
  have l2 : decide ((y.size : Int) < (d : Int)) = false := decide_eq_false (by omega)
  by_cases h0 : d = 0
  · subst h0
    have e2 : decide ((0 : Nat) = 0) = true := rfl
    go_enter Yba.func8, Yba.ntmps8
    go_wp2_with fail
    refine C1.out.mono ?_
    rintro e w1 ⟨rfl, n, rfl⟩
    go_wp2_with fail
    refine (C2.out n).mono ?_
    rintro e w1 ⟨rfl, m, rfl⟩
    go_wp2_with fail
    refine (C3.out (n + m)).mono ?_
    rintro e w1 ⟨rfl, rfl⟩
    go_wp2_with fail
    go_ret
    exact ⟨rfl, below_drewN (Below.refl _ _) _⟩
  · have e1 : ((d : Int) == 0) = false := by rw [beq_eq_false_iff_ne]; omega
    have e2 : decide (d = 0) = false := decide_eq_false h0
    go_enter Yba.func8, Yba.ntmps8
    go_wp2_with fail
    refine C1.out.mono ?_
    rintro e w1 ⟨rfl, n, rfl⟩
    go_wp2_with fail
    refine (C2.out n).mono ?_
    rintro e w1 ⟨rfl, m, rfl⟩
    go_wp2_with fail
    refine (C3.out (n + m)).mono ?_
    rintro e w1 ⟨rfl, rfl⟩
    go_wp2_with fail
    go_ret
    exact ⟨rfl, below_drewN (Below.refl _ _) _⟩
end Go.Proofs.Ybulkafi
