/-
  OUR OWN: THE WALK OF 'time.fmtInt' (function 15), over an array of 32 bytes of which nothing is told but that it is there.
-/
import Derived.Test.YbulkaukFmtRows
import Derived.WalkKit
import Derived.WalkSpells
import Derived.LoopTactic
import Derived.WalkLawsBesides
namespace Go.Proofs.YbulkaukFmt
open Go.RowKit

/-- Block b holds 32 bytes that may be written. -/
structure Arr (b : Nat) (w : World) : Prop where
  cell : ∀ i : Nat, i < 32 → ∃ x : Int, w.cell? ⟨b, i, none⟩ = some (.int .u8 x) ∧ 0 ≤ x ∧ x ≤ 255
  open_ : ∀ i : Nat, i < 32 → w.frozen? ⟨b, i, none⟩ = false

theorem Arr.set {b : Nat} {w : World} (h : Arr b w) {i : Nat} (hi : i < 32) {y : Int} (h0 : 0 ≤ y) (h1 : y ≤ 255) : Arr b (w.setCell ⟨b, i, none⟩ (.int .u8 y)) := by
  obtain ⟨x, hx, _⟩ := h.cell i hi
  refine ⟨fun j hj => ?_, fun j hj => ?_⟩
  · by_cases e : j = i
    · subst e
      exact ⟨y, World.cell?_setCell_same _ _ _ hx, h0, h1⟩
    · obtain ⟨z, hz, h2⟩ := h.cell j hj
      exact ⟨z, by rw [World.cell?_setCell_other _ _ _ _ (by intro h; simp only [Addr.mk.injEq] at h; omega)]; exact hz, h2⟩
  · simpa using h.open_ j hj

theorem ten_pos (k : Nat) : (0 : Int) < 10 ^ k := Int.pow_pos (by decide)
theorem div_ten {v : Int} {k : Nat} (h : v < 10 ^ (k + 1)) : v / 10 < 10 ^ k := by
  have e : (10 : Int) ^ (k + 1) = 10 ^ k * 10 := Int.pow_succ ..
  rw [e] at h
  exact Int.ediv_lt_of_lt_mul (by decide) h

set_option maxHeartbeats 1000000 in
theorem fmtInt_w (b n c : Nat) (hn : n ≤ 32) (v : Int) (k : Nat) (hv : 0 ≤ v) (hu : v ≤ 18446744073709551615) (hvk : v < 10 ^ k) (hk : 1 ≤ k) (hkn : k ≤ n) (w : World) (hA : Arr b w) :
    Calls Ybaf.prog 15 #[.slice (some ⟨b, 0, none⟩) n c, .int .u64 v] w fun e w' => ∃ m : Nat, e = .returned (.int .i64 m) ∧ n ≤ m + k ∧ m ≤ n ∧ Arr b w' ∧ Below b w w' := by
  have HA : Hid (Arr b w) := hA
  have HK : Hid (v < 10 ^ k) := hvk
  obtain ⟨x0, hx0, _⟩ := hA.cell (n - 1) (by omega)
  have hf0 := hA.open_ (n - 1) (by omega)
  clear hA hvk
  go_enter Ybaf.func15, Ybaf.ntmps15
  by_cases hz : v = 0
  · subst hz
    obtain ⟨n', rfl⟩ : ∃ n', n = n' + 1 := ⟨n - 1, by omega⟩
    simp only [Nat.add_sub_cancel] at hx0 hf0
    go_wp2_with fail
    go_ret
    exact ⟨n', by go_num, by omega, by omega, HA.out.set (by omega) (by decide) (by decide), (Below.refl b w).setCell (p := ⟨b, n', none⟩) (Nat.le_refl _) _⟩
  · clear hx0 hf0
    go_wp2_with fail
    go_loopw [1, 5] (fun x y wr => ∃ (m j : Nat) (vv : Int), y = .int .i64 m ∧ x = .int .u64 vv ∧ 0 ≤ vv ∧ vv ≤ 18446744073709551615 ∧ vv < 10 ^ j ∧ m + k = n + j ∧ m ≤ n ∧ Arr b wr ∧ Below b w wr) (fun _ y _ => (intOf y).toNat)
    case atStart => exact ⟨n, k, v, rfl, rfl, hv, hu, HK.out, rfl, Nat.le_refl _, HA.out, Below.refl _ _⟩
    case round =>
      obtain ⟨m, j, vv, rfl, rfl, h0, h1, hj, hm, hmn, hAr, hB⟩ := hrel
      by_cases hp : (0 : Int) < vv
      · obtain ⟨j', rfl⟩ : ∃ j', j = j' + 1 := by
          cases j with
          | zero => simp at hj; omega
          | succ j' => exact ⟨j', rfl⟩
        obtain ⟨m', rfl⟩ : ∃ m', m = m' + 1 := ⟨m - 1, by omega⟩
        have HJ : Hid (vv / 10 < 10 ^ j') := div_ten hj
        have HR : Hid (Arr b wr) := hAr
        obtain ⟨x1, hx1, _⟩ := hAr.cell m' (by omega)
        have hf1 := hAr.open_ m' (by omega)
        clear hj hAr
        go_wp2_with fail
        go_roundw
        case rel => exact ⟨m', j', vv / 10, by go_num, by go_num, by omega, by omega, HJ.out, by omega, by omega, HR.out.set (by omega) (by omega) (by omega), hB.setCell (Nat.le_refl _) _⟩
        case measure => simp [intOf]
      · have HR : Hid (Arr b wr) := hAr
        clear hAr hj
        go_wp2_with fail
        go_ret
        exact ⟨m, rfl, by omega, hmn, HR.out, hB⟩
end Go.Proofs.YbulkaukFmt
