/-
  OUR OWN: THE WALK OF 'time.fmtFrac' (function 14).
-/
import Derived.Test.YbulkaukFmtInt
namespace Go.Proofs.YbulkaukFmt
open Go.RowKit

theorem div_step (v : Int) (k : Nat) : v / 10 ^ k / 10 = v / 10 ^ (k + 1) := by
  have h := ten_pos k
  rw [Int.pow_succ, Int.ediv_ediv, if_neg (fun hh => by have := hh.1; omega), Int.sub_zero]

set_option maxHeartbeats 1000000 in
theorem fmtFrac_w (b n c prec : Nat) (hn : n ≤ 32) (hp : prec + 1 ≤ n) (v : Int) (hv : 0 ≤ v) (hu : v ≤ 18446744073709551615) (w : World) (hA : Arr b w) :
    Calls Ybaf.prog 14 #[.slice (some ⟨b, 0, none⟩) n c, .int .u64 v, .int .i64 prec] w fun e w' => ∃ (m : Nat) (u : Int), e = .returned (.tuple #[.int .i64 m, .int .u64 u]) ∧ u = v / 10 ^ prec ∧ n ≤ m + prec + 1 ∧ m ≤ n ∧ Arr b w' ∧ Below b w w' := by
  have HA : Hid (Arr b w) := hA
  clear hA
  go_enter Ybaf.func14, Ybaf.ntmps14
  go_wp2_with fail
  go_loopw [1, 8, 9, 10] (fun x y z i wr => ∃ (k m : Nat) (p : Bool) (vv : Int), i = .int .i64 k ∧ y = .int .i64 m ∧ z = .bool p ∧ x = .int .u64 vv ∧ k ≤ prec ∧ n ≤ m + k ∧ m ≤ n ∧ vv = v / 10 ^ k ∧ 0 ≤ vv ∧ vv ≤ 18446744073709551615 ∧ Arr b wr ∧ Below b w wr) (fun _ _ _ i _ => prec - (intOf i).toNat)
  case atStart => exact ⟨0, n, false, v, rfl, rfl, rfl, rfl, by omega, by omega, by omega, by simp, hv, hu, HA.out, Below.refl _ _⟩
  case round =>
    obtain ⟨k, m, p, vv, rfl, rfl, rfl, rfl, hk, hm, hmn, hvv, h0, h1, hAr, hB⟩ := hrel
    have HV : Hid (vv = v / 10 ^ k) := hvv
    have HR : Hid (Arr b wr) := hAr
    by_cases hlt : (k : Int) < prec
    · obtain ⟨m', rfl⟩ : ∃ m', m = m' + 1 := ⟨m - 1, by omega⟩
      obtain ⟨x1, hx1, _⟩ := hAr.cell m' (by omega)
      have hf1 := hAr.open_ m' (by omega)
      clear hAr hvv
      have HE : Hid (vv / 10 = v / 10 ^ (k + 1)) := by
        show vv / 10 = v / 10 ^ (k + 1)
        rw [HV.out]; exact div_step v k
      cases p with
      | true =>
        go_wp2_with fail
        go_roundw
        case rel => exact ⟨k + 1, m', true, vv / 10, by go_num, by go_num, rfl, by go_num, by omega, by omega, by omega, HE.out, by omega, by omega, HR.out.set (by omega) (by omega) (by omega), hB.setCell (p := ⟨b, m', none⟩) (Nat.le_refl _) _⟩
        case measure => simp [intOf]; omega
      | false =>
        by_cases hd : vv % 10 = 0
        · clear hx1 hf1
          go_wp2_with fail
          go_roundw
          case rel => exact ⟨k + 1, m' + 1, false, vv / 10, by go_num, by go_num, by simp, by go_num, by omega, by omega, by omega, HE.out, by omega, by omega, HR.out, hB⟩
          case measure => simp [intOf]; omega
        · go_wp2_with fail
          go_roundw
          case rel => exact ⟨k + 1, m', true, vv / 10, by go_num, by go_num, by simp [hd], by go_num, by omega, by omega, by omega, HE.out, by omega, by omega, HR.out.set (by omega) (by omega) (by omega), hB.setCell (p := ⟨b, m', none⟩) (Nat.le_refl _) _⟩
          case measure => simp [intOf]; omega
    · obtain rfl : k = prec := by omega
      cases p with
      | true =>
        obtain ⟨m', rfl⟩ : ∃ m', m = m' + 1 := ⟨m - 1, by omega⟩
        obtain ⟨x1, hx1, _⟩ := hAr.cell m' (by omega)
        have hf1 := hAr.open_ m' (by omega)
        clear hAr hvv
        go_wp2_with fail
        go_ret2
        exact ⟨m', vv, by go_num, HV.out, by omega, by omega, HR.out.set (by omega) (by decide) (by decide), hB.setCell (p := ⟨b, m', none⟩) (Nat.le_refl _) _⟩
      | false =>
        clear hAr hvv
        go_wp2_with fail
        go_ret2
        exact ⟨m, vv, rfl, HV.out, by omega, by omega, HR.out, hB⟩
end Go.Proofs.YbulkaukFmt
