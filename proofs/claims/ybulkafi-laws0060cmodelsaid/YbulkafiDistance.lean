/-
  OUR OWN: 'distance' (function 12) computes 'Plain.dist'.
-/
import Derived.Test.YbulkafiDist
import Derived.Test.YbulkafiAMirrorWalk
import Derived.Lib.Strings
namespace Go.Proofs.Ybulkafi
open Go.RowKit

theorem meet_raw (x y : ByteArray) (k : Nat) : ((x.extract (x.size - k) x.size).toList == (y.extract 0 k).toList) = Plain.meet x.data.toList y.data.toList k := by
  rw [Lib.extract_toList, Lib.extract_toList]
  unfold Plain.meet
  have hl : x.data.toList.length = x.size := by simp
  rw [hl, List.take_of_length_le (by simp)]
  simp

theorem ret_int64 {a b : Int} (h : a = b) : Ending.returned (.int .i64 a) = .returned (.int .i64 b) := by rw [h]
theorem best_yes {x y : List UInt8} {k : Nat} (h : Plain.meet x y k = true) (h0 : 0 < k) : Plain.best x y k = k := by
  obtain ⟨j, rfl⟩ : ∃ j, k = j + 1 := ⟨k - 1, by omega⟩
  exact Plain.best_succ_yes x y j h
theorem best_no {x y : List UInt8} {k : Nat} (h : Plain.meet x y k = false) (h0 : 0 < k) : Plain.best x y k = Plain.best x y (k - 1) := by
  obtain ⟨j, rfl⟩ : ∃ j, k = j + 1 := ⟨k - 1, by omega⟩
  exact Plain.best_succ_no x y j h
theorem dist_of {x y : List UInt8} {sx sy k b : Nat} (hx : x.length = sx) (hy : y.length = sy) (hb : Plain.best x y (min sx sy) = Plain.best x y k) (hk : Plain.best x y k = b) : Plain.dist x y = sy - b := by
  unfold Plain.dist
  rw [hx, hy, hb, hk]

set_option maxHeartbeats 1000000 in
theorem distance_any (x y : ByteArray) (w : World) (hx : x.size ≤ 65536) (hy : y.size ≤ 65536) :
    Calls Yba.prog 12 #[.string x, .string y] w fun e w' => e = .returned (.int .i64 (Plain.dist x.data.toList y.data.toList)) ∧ ∃ n, w' = w.drewN n := by
  have lx : x.data.toList.length = x.size := by simp
  have ly : y.data.toList.length = y.size := by simp
  have LX : Hid (x.data.toList.length = x.size) := lx
  have LY : Hid (y.data.toList.length = y.size) := ly
  clear lx ly
  obtain ⟨m, hm⟩ : ∃ m, m = min x.size y.size := ⟨_, rfl⟩
  have HM : Hid (m = min x.size y.size) := hm
  have hm1 : m ≤ x.size := by omega
  have hm2 : m ≤ y.size := by omega
  clear hm
  go_enter Yba.func12, Yba.ntmps12
  go_wp2_with fail
  all_goals
    go_loopw [5] (fun i wr => ∃ k : Nat, k ≤ x.size ∧ k ≤ y.size ∧ i = .int .i64 k ∧ Plain.best x.data.toList y.data.toList (min x.size y.size) = Plain.best x.data.toList y.data.toList k ∧ ∃ n, wr = w.drewN n) (fun i _ => (intOf i).toNat)
    case atStart => first | exact ⟨y.size, by omega, by omega, rfl, by rw [Nat.min_eq_right (by omega)], 0, rfl⟩ | exact ⟨x.size, by omega, by omega, rfl, by rw [Nat.min_eq_left (by omega)], 0, rfl⟩
    case round =>
      obtain ⟨k, hk1, hk2, rfl, hbest, n, rfl⟩ := hrel
      have HB : Hid (Plain.best x.data.toList y.data.toList (min x.size y.size) = Plain.best x.data.toList y.data.toList k) := hbest
      clear hbest
      by_cases hlt : 0 < k
      · obtain ⟨a, ha⟩ : ∃ a, x.data.toList[x.size - k]? = some a := ⟨_, List.getElem?_eq_getElem (by rw [LX.out]; omega)⟩
        obtain ⟨b, hb⟩ : ∃ b, y.data.toList[0]? = some b := ⟨_, List.getElem?_eq_getElem (by rw [LY.out]; omega)⟩
        have i1 : ∀ wz, (Instr.index 25 (.string x) (.int .i64 ((x.size : Int) - k))).run Yba.prog wz = .ok (.int .u8 (a.toNat : Int)) wz := sidx Yba.underlying25 x _ (x.size - k) (by omega) (by omega) a ha
        have i2 : ∀ wz, (Instr.index 25 (.string y) (.int .i64 0)).run Yba.prog wz = .ok (.int .u8 (b.toNat : Int)) wz := sidx Yba.underlying25 y 0 0 rfl (by omega) b hb
        by_cases hab : a = b
        · subst hab
          have e1 : ((a.toNat : Int) == (a.toNat : Int)) = true := by simp
          have hr := meet_raw x y k
          clear ha hb
          cases hmt : Plain.meet x.data.toList y.data.toList k with
          | true =>
            rw [hmt] at hr
            have HT : Hid (Plain.meet x.data.toList y.data.toList k = true) := hmt
            clear hmt
            go_wp2_with fail
            go_quiet (fail)
            go_wp2
            go_ret
            refine ⟨ret_int64 ?_, n + nq, rfl⟩
            have := dist_of LX.out LY.out HB.out (best_yes HT.out hlt)
            omega
          | false =>
            rw [hmt] at hr
            have HT : Hid (Plain.meet x.data.toList y.data.toList k = false) := hmt
            clear hmt
            go_wp2_with fail
            go_quiet (fail)
            go_wp2
            go_roundw
            case rel => exact ⟨k - 1, by omega, by omega, by go_num, HB.out.trans (best_no HT.out hlt), n + nq, rfl⟩
            case measure => simp [intOf]; omega
        · have hab' : ((a.toNat : Int) == (b.toNat : Int)) = false := by
            rw [beq_eq_false_iff_ne]
            intro h
            exact hab (UInt8.toNat_inj.1 (by omega))
          have HT : Hid (Plain.meet x.data.toList y.data.toList k = false) := by
            refine Plain.meet_head _ _ k hlt (by rw [LX.out]; omega) (by rw [LY.out]; omega) ?_
            rw [LX.out, ha, hb]
            simpa using hab
          clear hab ha hb
          go_wp2_with fail
          go_quiet (fail)
          go_wp2
          go_roundw
          case rel => exact ⟨k - 1, by omega, by omega, by go_num, HB.out.trans (best_no HT.out hlt), n + nq, rfl⟩
          case measure => simp [intOf]; omega
      · obtain rfl : k = 0 := by omega
        go_wp2_with fail
        go_ret
        refine ⟨ret_int64 ?_, n, rfl⟩
        have := dist_of LX.out LY.out HB.out (show Plain.best x.data.toList y.data.toList 0 = 0 from rfl)
        omega
end Go.Proofs.Ybulkafi
