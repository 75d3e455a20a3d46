/-
  OUR OWN: THE WALK OF 'LawS0060AMirror' (function 3).
-/
import Derived.Test.YbulkafiReversed
import Derived.BigQuiet
import Derived.Deep.QuietTactic
namespace Go.Proofs.Ybulkafi
open Go.RowKit

/-- A byte of a string, by its place. -/
theorem sidx {t : TypeId} (ht : Yba.prog.underlying t = some .string) (s : ByteArray) (i : Int) (k : Nat) (hi : i = k) (hk : k < s.size) (x : UInt8) (hx : s.data.toList[k]? = some x) (w : World) :
    (Instr.index t (.string s) (.int .i64 i)).run Yba.prog w = .ok (.int .u8 (x.toNat : Int)) w := by
  subst hi
  rw [run_index_string (h := ht), dif_pos ⟨by omega, by omega⟩]
  have hk' : k < s.data.size := hk
  have : s[k] = x := by
    have h2 : s.data.toList[k]? = some s[k] := by
      rw [Array.getElem?_toList, Array.getElem?_eq_getElem hk']
      rfl
    rw [h2] at hx
    simpa using hx
  simp [this]

theorem mirror_at (s : ByteArray) (k : Nat) (hk : k < s.size) : ∃ x, (s.data.toList.reverse.toArray.toList)[k]? = some x ∧ s.data.toList[s.size - 1 - k]? = some x := by
  have hl : s.data.toList.length = s.size := by simp
  refine ⟨s.data.toList[s.size - 1 - k]'(by omega), ?_, List.getElem?_eq_getElem (by omega)⟩
  rw [List.toList_toArray, List.getElem?_reverse (by omega), List.getElem?_eq_getElem (by omega)]
  simp [hl]

set_option maxHeartbeats 1000000 in
theorem amirror_walk (s : ByteArray) (w : World) :
    Calls Yba.prog 3 #[.string s] w fun e w' => e = .returned (.bool true) ∧ Below w.heap.size w w' := by
  by_cases hs : 65536 < s.size
  · have hs' : (65536 : Int) < (s.size : Int) := by omega
    go_enter Yba.func3, Yba.ntmps3
    go_wp2_with fail
    go_ret
    exact ⟨rfl, Below.refl _ _⟩
  · have hs' : (s.size : Int) ≤ 65536 := by omega
    have hle : s.size ≤ 65536 := by omega
    clear hs
    have hsz : (⟨s.data.toList.reverse.toArray⟩ : ByteArray).size = s.size := by show (s.data.toList.reverse.toArray).size = _; simp
    have hmir := fun k hk => mirror_at s k hk
    have HM : Hid (∀ k, k < s.size → ∃ x, (⟨s.data.toList.reverse.toArray⟩ : ByteArray).data.toList[k]? = some x ∧ s.data.toList[s.size - 1 - k]? = some x) := hmir
    clear hmir
    have hrev := reversed_any s w hle
    have HR : Hid (Calls Yba.prog 9 #[.string s] w fun e w' => e = .returned (.string ⟨s.data.toList.reverse.toArray⟩) ∧ Below w.heap.size w w') := hrev
    clear hrev
    generalize (⟨s.data.toList.reverse.toArray⟩ : ByteArray) = R at hsz HM HR
    have e0 : ((s.size : Int) != (s.size : Int)) = false := by simp
    go_enter Yba.func3, Yba.ntmps3
    go_wp2_with (go_at_call 9; refine HR.out.mono ?_; rintro e w1 ⟨rfl, hb⟩)
    go_loopw [5] (fun i wr => ∃ k : Nat, k ≤ s.size ∧ i = .int .i64 k ∧ Below w.heap.size w wr) (fun i _ => s.size - (intOf i).toNat)
    case atStart => exact ⟨0, Nat.zero_le _, rfl, hb⟩
    case round =>
      obtain ⟨k, hk, rfl, hB⟩ := hrel
      by_cases hlt : k < s.size
      · obtain ⟨x, hx1, hx2⟩ := HM.out k hlt
        have i1 : ∀ wz, (Instr.index 9 (.string R) (.int .i64 k)).run Yba.prog wz = .ok (.int .u8 (x.toNat : Int)) wz := sidx Yba.underlying9 R k k rfl (by omega) x hx1
        have i2 : ∀ wz, (Instr.index 9 (.string s) (.int .i64 ((s.size : Int) - 1 - k))).run Yba.prog wz = .ok (.int .u8 (x.toNat : Int)) wz := sidx Yba.underlying9 s _ (s.size - 1 - k) (by omega) (by omega) x hx2
        clear hx1 hx2
        go_wp2_with fail
        go_quiet (fail)
        go_wp2
        go_roundw
        case rel => exact ⟨k + 1, by omega, by go_num, below_drewN hB _⟩
        case measure => simp [intOf]; omega
      · go_wp2_with fail
        go_ret
        exact ⟨rfl, hB⟩
end Go.Proofs.Ybulkafi
