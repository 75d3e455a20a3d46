/-
  OUR OWN: 'slices.Reverse' at []byte (function 15) and 'reversed' (function 9): contracts.
-/
import Derived.Test.YbulkafiProg
import Derived.WalkKit
import Derived.WalkSpells
import Derived.WalkLawsBesides
import Derived.LoopTactic
import Derived.RegionTactic
import Derived.Laws.IdiomStrings
namespace Go.Proofs.Ybulkafi
open Go.RowKit

/-- Behind k rounds the k outermost pairs have changed places. -/
def turned (n k t : Nat) : Nat := if t < k ∨ n < t + k + 1 then n - 1 - t else t

theorem swap_cells {g n k jn : Nat} {f : Nat → Int} {w : World} (hc : ∀ t, t < n → w.cell? ⟨g, t, none⟩ = some (.int .u8 (f (turned n k t)))) (hj : jn + k + 1 = n) (hlt : k < jn) :
    ∀ t, t < n → ((w.setCell ⟨g, k, none⟩ (.int .u8 (f jn))).setCell ⟨g, jn, none⟩ (.int .u8 (f k))).cell? ⟨g, t, none⟩ = some (.int .u8 (f (turned n (k + 1) t))) := by
  intro t ht
  by_cases e1 : t = jn
  · subst e1
    have h1 := hc t ht
    have h2 : (w.setCell ⟨g, k, none⟩ (.int .u8 (f t))).cell? ⟨g, t, none⟩ = some (.int .u8 (f (turned n k t))) := by
      rw [World.cell?_setCell_other _ _ _ _ (by intro h; simp only [Addr.mk.injEq] at h; omega)]; exact h1
    rw [World.cell?_setCell_same _ _ _ h2]
    have : turned n (k + 1) t = k := by unfold turned; rw [if_pos (by omega)]; omega
    rw [this]
  · rw [World.cell?_setCell_other _ _ _ _ (by intro h; simp only [Addr.mk.injEq] at h; omega)]
    by_cases e2 : t = k
    · subst e2
      rw [World.cell?_setCell_same _ _ _ (hc t ht)]
      have : turned n (t + 1) t = jn := by unfold turned; rw [if_pos (by omega)]; omega
      rw [this]
    · rw [World.cell?_setCell_other _ _ _ _ (by intro h; simp only [Addr.mk.injEq] at h; omega), hc t ht]
      have : turned n (k + 1) t = turned n k t := by unfold turned; split <;> split <;> omega
      rw [this]

set_option maxHeartbeats 1000000 in
theorem reverse_any (g n c : Nat) (f : Nat → Int) (w : World) (hn : n ≤ 65536) (hc : ∀ t, t < n → w.cell? ⟨g, t, none⟩ = some (.int .u8 (f t))) (hf : ∀ t, t < n → w.frozen? ⟨g, t, none⟩ = false) :
    Calls Yba.prog 15 #[.slice (some ⟨g, 0, none⟩) n c] w fun e w' => e = .returned (.tuple #[]) ∧ (∀ t, t < n → w'.cell? ⟨g, t, none⟩ = some (.int .u8 (f (n - 1 - t)))) ∧ Below g w w' := by
  have HC : Hid (∀ t, t < n → w.cell? ⟨g, t, none⟩ = some (.int .u8 (f t))) := hc
  have HF : Hid (∀ t, t < n → w.frozen? ⟨g, t, none⟩ = false) := hf
  clear hc hf
  go_enter Yba.func15, Yba.ntmps15
  go_wp2
  go_loopw [2, 3] (fun i j wr => ∃ (k : Nat) (jz : Int), i = .int .i64 k ∧ j = .int .i64 jz ∧ jz + k + 1 = n ∧ 2 * k ≤ n ∧ (∀ t, t < n → wr.cell? ⟨g, t, none⟩ = some (.int .u8 (f (turned n k t)))) ∧ (∀ t, t < n → wr.frozen? ⟨g, t, none⟩ = false) ∧ Below g w wr) (fun i _ _ => n - (intOf i).toNat)
  case atStart => exact ⟨0, (n : Int) - 1, rfl, rfl, by simp, by omega, fun t ht => by rw [show turned n 0 t = t by unfold turned; rw [if_neg (by omega)]]; exact HC.out t ht, HF.out, Below.refl _ _⟩
  case round =>
    obtain ⟨k, jz, rfl, rfl, hj, hk, hcr, hfr, hB⟩ := hrel
    have CR : Hid (∀ t, t < n → wr.cell? ⟨g, t, none⟩ = some (.int .u8 (f (turned n k t)))) := hcr
    have FR : Hid (∀ t, t < n → wr.frozen? ⟨g, t, none⟩ = false) := hfr
    clear hcr hfr
    by_cases hlt : (k : Int) < jz
    · obtain ⟨jn, rfl⟩ : ∃ jn : Nat, jz = jn := ⟨jz.toNat, by omega⟩
      have HJ : Hid (jn + k + 1 = n) := by show jn + k + 1 = n; omega
      have ci : wr.cell? ⟨g, k, none⟩ = some (.int .u8 (f k)) := by
        have := CR.out k (by omega)
        rwa [show turned n k k = k by unfold turned; rw [if_neg (by omega)]] at this
      have cj : wr.cell? ⟨g, jn, none⟩ = some (.int .u8 (f jn)) := by
        have := CR.out jn (by omega)
        rwa [show turned n k jn = jn by unfold turned; rw [if_neg (by omega)]] at this
      have fi := FR.out k (by omega)
      have fj := FR.out jn (by omega)
      have cj' : ∀ v, (wr.setCell ⟨g, k, none⟩ v).cell? ⟨g, jn, none⟩ = some (.int .u8 (f jn)) := fun v => by
        rw [World.cell?_setCell_other _ _ _ _ (by intro h; simp only [Addr.mk.injEq] at h; omega)]; exact cj
      have hb1 : (k : Int) < n := by omega
      have hb2 : (jn : Int) < n := by omega
      clear hj
      go_wp2_with fail
      go_region
      go_wp2
      go_roundw
      case rel =>
        refine ⟨k + 1, (jn : Int) - 1, by go_num, by go_num, by have := HJ.out; omega, by have := HJ.out; omega, swap_cells CR.out HJ.out (by omega), fun t ht => ?_, ((hB.setCell (Nat.le_refl _) _).setCell (Nat.le_refl _) _).drew⟩
        exact ((World.frozen?_setCell _ _ _ _).trans (World.frozen?_setCell _ _ _ _)).trans (FR.out t ht)
      case measure => have := HJ.out; simp [intOf]; omega
    · go_wp2
      go_end0
      refine ⟨rfl, fun t ht => ?_, hB⟩
      rw [CR.out t ht]
      have : turned n k t = n - 1 - t := by unfold turned; split <;> omega
      rw [this]

/-- '[]byte(s)': a new row that holds the bytes of s. -/
theorem bytes_made (s : ByteArray) (w : World) : ∃ w1 cap, (convert 9 65 (.string s)).run Yba.prog w = .ok (.slice (some ⟨w.heap.size, 0, none⟩) s.size cap) w1 ∧
    (∀ t, t < s.size → w1.cell? ⟨w.heap.size, t, none⟩ = some (.int .u8 ((s.data.toList.getD t 0).toNat : Int))) ∧ (∀ t, t < s.size → w1.frozen? ⟨w.heap.size, t, none⟩ = false) ∧ Below w.heap.size w w1 := by
  have hr := run_bytes_of_string (P := Yba.prog) w 9 65 5 s Yba.underlying9 Yba.underlying65 Yba.underlying5
  have hh : ∀ (C : Array Value) (m : Nat × Nat), (w.drew.alloc (.cells C 5 m)).heap[w.heap.size]? = some (.cells C 5 m) := fun C m => by
    show (w.heap.push _)[w.heap.size]? = _
    simp
  have hsz : s.data.size = s.size := rfl
  refine ⟨_, _, hr, fun t ht => ?_, fun t ht => ?_, ?_⟩
  · simp only [World.cell?, hh]
    have : (bytesRow s (grownCap w s.size 0 5))[t]? = some (.int .u8 ((s.data.toList.getD t 0).toNat : Int)) := by
      unfold bytesRow
      rw [Array.getElem?_append_left (by simp; omega)]
      simp
      exact ⟨s.data[t]'(by omega), Array.getElem?_eq_getElem (by omega), by rw [Array.getElem?_eq_getElem (by omega)]; rfl⟩
    simp [this]
  · simp only [World.frozen?, hh]
    have : s.size ≤ (bytesRow s (grownCap w s.size 0 5)).size := by unfold bytesRow; simp
    simp; omega
  · exact ((Below.refl _ _).drew).alloc (Nat.le_refl _) _

theorem back_len (s : ByteArray) : s.data.toList.reverse.length = s.size := by simp
theorem back_cells {s : ByteArray} {g : Nat} {w : World} (hc : ∀ t, t < s.size → w.cell? ⟨g, t, none⟩ = some (.int .u8 ((s.data.toList.getD (s.size - 1 - t) 0).toNat : Int))) :
    ∀ j (hj : j < s.data.toList.reverse.length), w.cell? ((⟨g, 0, none⟩ : Addr).add j) = some (.int .u8 (s.data.toList.reverse[j].toNat : Int)) := by
  intro j hj
  have hl : s.data.toList.length = s.size := by simp
  have hj' : j < s.size := by simpa [hl] using hj
  rw [WideShapes.add_plain, Nat.zero_add, hc j hj', List.getElem_reverse]
  simp only [hl]
  rw [List.getD_eq_getElem?_getD, List.getElem?_eq_getElem (by omega)]
  rfl

set_option maxHeartbeats 1000000 in
/-- 'reversed(s)': the bytes of s from behind. -/
theorem reversed_any (s : ByteArray) (w : World) (hs : s.size ≤ 65536) :
    Calls Yba.prog 9 #[.string s] w fun e w' => e = .returned (.string ⟨s.data.toList.reverse.toArray⟩) ∧ Below w.heap.size w w' := by
  obtain ⟨w1, cap, hcv, hc, hf, hb⟩ := bytes_made s w
  have HC : Hid (∀ t, t < s.size → w1.cell? ⟨w.heap.size, t, none⟩ = some (.int .u8 ((s.data.toList.getD t 0).toNat : Int))) := hc
  have HF : Hid (∀ t, t < s.size → w1.frozen? ⟨w.heap.size, t, none⟩ = false) := hf
  clear hc hf
  go_enter Yba.func9, Yba.ntmps9
  go_wp2_with (go_at_call 15; refine (reverse_any w.heap.size s.size cap (fun t => ((s.data.toList.getD t 0).toNat : Int)) _ hs HC.out HF.out).mono ?_; rintro e w2 ⟨rfl, hc2, hb2⟩; have hback := run_convert_bytes_back (P := Yba.prog) w2 65 9 5 ⟨w.heap.size, 0, none⟩ cap s.data.toList.reverse Yba.underlying65 Yba.underlying5 Yba.underlying9 (by exact back_cells hc2); rw [back_len] at hback; clear hc2)
  go_ret
  exact ⟨rfl, hb.trans hb2⟩
end Go.Proofs.Ybulkafi
