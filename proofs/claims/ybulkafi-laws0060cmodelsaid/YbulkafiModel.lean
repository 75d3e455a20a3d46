/-
  OUR OWN: 'zzs0060cmodel' (function 13) computes 'Plain.dist' too.
-/
import Derived.Test.YbulkafiDistance
namespace Go.Proofs.Ybulkafi
open Go.RowKit

theorem agree_succ {x y : List UInt8} {sx k j : Nat} {a : UInt8} (hx : x.length = sx) (h : Plain.agree x y k j) (ha : x[sx - k + j]? = some a) (hb : y[j]? = some a) : Plain.agree x y k (j + 1) := by
  intro i hi
  by_cases e : i = j
  · subst e; rw [hx, ha, hb]
  · exact h i (by omega)
theorem best_met {x y : List UInt8} {sx sy k : Nat} (hx : x.length = sx) (hy : y.length = sy) (h1 : k + 1 ≤ sx) (h2 : k + 1 ≤ sy) (h : Plain.agree x y (k + 1) (k + 1)) : Plain.best x y (k + 1) = k + 1 :=
  Plain.best_succ_yes x y k ((Plain.agree_meet x y (k + 1) (by omega) (by omega)).1 h)
theorem best_apart {x y : List UInt8} {sx sy k j : Nat} {a b : UInt8} (hx : x.length = sx) (hy : y.length = sy) (h1 : k + 1 ≤ sx) (h2 : k + 1 ≤ sy) (hj : j < k + 1) (ha : x[sx - (k + 1) + j]? = some a) (hb : y[j]? = some b) (hab : ¬ a = b) :
    Plain.best x y (k + 1) = Plain.best x y k := by
  refine Plain.best_succ_no x y k ?_
  cases hm : Plain.meet x y (k + 1) with
  | false => rfl
  | true =>
    have := (Plain.agree_meet x y (k + 1) (by omega) (by omega)).2 hm j hj
    rw [hx, ha, hb] at this
    exact absurd (by simpa using this) hab

set_option maxHeartbeats 2000000 in
theorem model_any (x y : ByteArray) (w : World) (hx : x.size ≤ 65536) (hy : y.size ≤ 65536) :
    Calls Yba.prog 13 #[.string x, .string y] w fun e w' => e = .returned (.int .i64 (Plain.dist x.data.toList y.data.toList)) ∧ ∃ n, w' = w.drewN n := by
  have lx : x.data.toList.length = x.size := by simp
  have ly : y.data.toList.length = y.size := by simp
  have LX : Hid (x.data.toList.length = x.size) := lx
  have LY : Hid (y.data.toList.length = y.size) := ly
  clear lx ly
  go_enter Yba.func13, Yba.ntmps13
  go_wp2_with fail
  go_loopw [5, 6] (fun b i wr => ∃ k : Nat, k ≤ x.size ∧ k ≤ y.size ∧ i = .int .i64 ((k : Int) + 1) ∧ b = .int .i64 (Plain.best x.data.toList y.data.toList k) ∧ ∃ n, wr = w.drewN n) (fun _ i _ => x.size + 1 - (intOf i).toNat)
  case atStart => exact ⟨0, Nat.zero_le _, Nat.zero_le _, rfl, rfl, 0, rfl⟩
  case round =>
    obtain ⟨k, hk1, hk2, rfl, rfl, n, rfl⟩ := hrel
    by_cases hlt1 : k < x.size
    · by_cases hlt2 : k < y.size
      · have t1 : decide ((k : Int) + 1 ≤ (x.size : Int)) = true := decide_eq_true (by omega)
        have t2 : decide ((k : Int) + 1 ≤ (y.size : Int)) = true := decide_eq_true (by omega)
        have hble := Plain.best_le x.data.toList y.data.toList k
        go_wp2_with fail
        go_loopw [7, 8] (fun o i wr => ∃ j : Nat, j ≤ k + 1 ∧ i = .int .i64 j ∧ o = .bool true ∧ Plain.agree x.data.toList y.data.toList (k + 1) j ∧ ∃ n, wr = w.drewN n) (fun _ i _ => k + 1 - (intOf i).toNat)
        case atStart => exact ⟨0, Nat.zero_le _, rfl, rfl, fun _ h => absurd h (by omega), n, rfl⟩
        case round =>
          obtain ⟨j, hj, rfl, rfl, hag, m, rfl⟩ := hrel
          have HA : Hid (Plain.agree x.data.toList y.data.toList (k + 1) j) := hag
          clear hag
          by_cases hlt : j < k + 1
          · obtain ⟨a, ha⟩ : ∃ a, x.data.toList[x.size - (k + 1) + j]? = some a := ⟨_, List.getElem?_eq_getElem (by rw [LX.out]; omega)⟩
            obtain ⟨b, hb⟩ : ∃ b, y.data.toList[j]? = some b := ⟨_, List.getElem?_eq_getElem (by rw [LY.out]; omega)⟩
            have i1 : ∀ wz, (Instr.index 9 (.string x) (.int .i64 ((x.size : Int) - ((k : Int) + 1) + j))).run Yba.prog wz = .ok (.int .u8 (a.toNat : Int)) wz := sidx Yba.underlying9 x _ (x.size - (k + 1) + j) (by omega) (by omega) a ha
            have i2 : ∀ wz, (Instr.index 9 (.string y) (.int .i64 j)).run Yba.prog wz = .ok (.int .u8 (b.toNat : Int)) wz := sidx Yba.underlying9 y j j rfl (by omega) b hb
            have hlt' : (j : Int) < (k : Int) + 1 := by omega
            by_cases hab : a = b
            · subst hab
              have e1 : ((a.toNat : Int) != (a.toNat : Int)) = false := by simp
              have HA' : Hid (Plain.agree x.data.toList y.data.toList (k + 1) (j + 1)) := agree_succ LX.out HA.out ha hb
              clear ha hb
              go_wp2_with fail
              go_quiet (fail)
              go_wp2
              go_roundw
              case rel => exact ⟨j + 1, by omega, by go_num, rfl, HA'.out, m + nq, rfl⟩
              case measure => simp [intOf]; omega
            · have e1 : ((a.toNat : Int) != (b.toNat : Int)) = true := by
                rw [bne_iff_ne]
                intro h
                exact hab (UInt8.toNat_inj.1 (by omega))
              have HN : Hid (Plain.best x.data.toList y.data.toList (k + 1) = Plain.best x.data.toList y.data.toList k) := best_apart LX.out LY.out (by omega) (by omega) hlt ha hb hab
              clear ha hb hab
              go_wp2_with fail
              go_quiet (fail)
              go_wp2
              go_roundw
              case rel => exact ⟨k + 1, by omega, by omega, by go_num, by rw [HN.out], m + nq, rfl⟩
              case measure => simp [intOf]; omega
          · obtain rfl : j = k + 1 := by omega
            have HN : Hid (Plain.best x.data.toList y.data.toList (k + 1) = k + 1) := best_met LX.out LY.out (by omega) (by omega) HA.out
            go_wp2_with fail
            go_roundw
            case rel => exact ⟨k + 1, by omega, by omega, by go_num, by rw [HN.out]; go_num, m, rfl⟩
            case measure => simp [intOf]; omega
      · have t1 : decide ((k : Int) + 1 ≤ (x.size : Int)) = true := decide_eq_true (by omega)
        have t2 : decide ((k : Int) + 1 ≤ (y.size : Int)) = false := decide_eq_false (by omega)
        have hble := Plain.best_le x.data.toList y.data.toList k
        go_wp2_with fail
        go_ret
        refine ⟨ret_int64 ?_, n, rfl⟩
        have := dist_of LX.out LY.out (show Plain.best x.data.toList y.data.toList (min x.size y.size) = Plain.best x.data.toList y.data.toList k by rw [show min x.size y.size = k by omega]) rfl
        omega
    · have t1 : decide ((k : Int) + 1 ≤ (x.size : Int)) = false := decide_eq_false (by omega)
      have hble := Plain.best_le x.data.toList y.data.toList k
      go_wp2_with fail
      go_ret
      refine ⟨ret_int64 ?_, n, rfl⟩
      have := dist_of LX.out LY.out (show Plain.best x.data.toList y.data.toList (min x.size y.size) = Plain.best x.data.toList y.data.toList k by rw [show min x.size y.size = k by omega]) rfl
      omega
end Go.Proofs.Ybulkafi
