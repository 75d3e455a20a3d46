/-
  OUR OWN: '(time.Duration).format' (function 13), a second and more; then '(time.Duration).String' (function 11), for every duration that is not positive.
-/
import Derived.Test.YbulkaukFmtFormat
namespace Go.Proofs.YbulkaukFmt
open Go.RowKit

set_option maxHeartbeats 2000000 in
theorem format_big (b : Nat) (w : World) (hA : Arr b w) (d u : Int) (h0 : d < 0) (hw : IntKind.u64.wrap (-IntKind.u64.wrap d) = u) (hu : 1000000000 ≤ u) (h1 : u ≤ 9223372036854775808) :
    Calls Ybaf.prog 13 #[.int .i64 d, .pointer (some ⟨b, 0, none⟩)] w fun e w' => ∃ m : Nat, e = .returned (.int .i64 m) ∧ m ≤ 31 ∧ Arr b w' ∧ Below b w w' := by
  have HA : Hid (Arr b w) := hA
  obtain ⟨x0, hx0, _⟩ := hA.cell 31 (by decide)
  have hf0 := hA.open_ 31 (by decide)
  clear hA
  have b2 : ¬ u < 1000000000 := by omega
  go_enter Ybaf.func13, Ybaf.ntmps13
  go_wp2_with fail
  go_at_call 14
  refine (fmtFrac_w b 31 32 9 (by decide) (by decide) u (by omega) (by omega) _ (HA.out.set (i := 31) (by decide) (by decide) (by decide))).mono ?_
  rintro e w1 ⟨m1, u1, rfl, hu1, hm1, hm1', hA1, hB1⟩
  have B1 : Hid (Below b w w1) := ((Below.refl b w).setCell (p := ⟨b, 31, none⟩) (Nat.le_refl _) _).trans hB1
  have A1 : Hid (Arr b w1) := hA1
  have hu2 : 0 ≤ u1 := by omega
  have hu3 : u1 ≤ 9223372036 := by omega
  have hl1 : (m1 : Int) ≤ 32 := by omega
  clear hA1 hB1 hx0 hf0 hu1
  go_wp2_with fail
  go_at_call 15
  refine (fmtInt_w b m1 32 (by omega) (u1 % 60) 2 (by omega) (by omega) (by omega) (by decide) (by omega) _ A1.out).mono ?_
  rintro e w2 ⟨m2, rfl, hm2, hm2', hA2, hB2⟩
  obtain ⟨m3, rfl⟩ : ∃ m3, m2 = m3 + 1 := ⟨m2 - 1, by omega⟩
  obtain ⟨x2, hx2, _⟩ := hA2.cell m3 (by omega)
  have hf2 := hA2.open_ m3 (by omega)
  have hl3 : (m3 : Int) < 32 := by omega
  have hl3' : (m3 : Int) ≤ 32 := by omega
  have A2 : Hid (Arr b w2) := hA2
  have B2 : Hid (Below b w w2) := B1.out.trans hB2
  clear hA2 hB2
  obtain ⟨u2, hq⟩ : ∃ u2, u1 / 60 = u2 := ⟨_, rfl⟩
  by_cases hp : 0 < u2
  · go_wp2_with fail
    go_at_call 15
    refine (fmtInt_w b m3 32 (by omega) (u2 % 60) 2 (by omega) (by omega) (by omega) (by decide) (by omega) _ (A2.out.set (by omega) (by decide) (by decide))).mono ?_
    rintro e w4 ⟨m4, rfl, hm4, hm4', hA4, hB4⟩
    obtain ⟨m5, rfl⟩ : ∃ m5, m4 = m5 + 1 := ⟨m4 - 1, by omega⟩
    obtain ⟨x4, hx4, _⟩ := hA4.cell m5 (by omega)
    have hf4 := hA4.open_ m5 (by omega)
    have hl5 : (m5 : Int) < 32 := by omega
    have hl5' : (m5 : Int) ≤ 32 := by omega
    have A4 : Hid (Arr b w4) := hA4
    have B4 : Hid (Below b w w4) := (B2.out.setCell (p := ⟨b, m3, none⟩) (Nat.le_refl _) _).trans hB4
    clear hA4 hB4 hx2 hf2
    obtain ⟨u3, hq3⟩ : ∃ u3, u2 / 60 = u3 := ⟨_, rfl⟩
    by_cases hp3 : 0 < u3
    · go_wp2_with fail
      go_at_call 15
      refine (fmtInt_w b m5 32 (by omega) u3 7 (by omega) (by omega) (by omega) (by decide) (by omega) _ (A4.out.set (by omega) (by decide) (by decide))).mono ?_
      rintro e w6 ⟨m6, rfl, hm6, hm6', hA6, hB6⟩
      obtain ⟨m7, rfl⟩ : ∃ m7, m6 = m7 + 1 := ⟨m6 - 1, by omega⟩
      obtain ⟨x6, hx6, _⟩ := hA6.cell m7 (by omega)
      have hf6 := hA6.open_ m7 (by omega)
      have hl7 : (m7 : Int) < 32 := by omega
      have A6 : Hid (Arr b w6) := hA6
      have B6 : Hid (Below b w w6) := (B4.out.setCell (p := ⟨b, m5, none⟩) (Nat.le_refl _) _).trans hB6
      clear hA6 hB6 hx4 hf4
      go_wp2_with fail
      go_ret
      exact ⟨m7, by go_num, by omega, A6.out.set (by omega) (by decide) (by decide), B6.out.setCell (p := ⟨b, m7, none⟩) (Nat.le_refl _) _⟩
    · go_wp2_with fail
      go_ret
      exact ⟨m5, by go_num, by omega, A4.out.set (by omega) (by decide) (by decide), B4.out.setCell (p := ⟨b, m5, none⟩) (Nat.le_refl _) _⟩
  · go_wp2_with fail
    go_ret
    exact ⟨m3, by go_num, by omega, A2.out.set (by omega) (by decide) (by decide), B2.out.setCell (p := ⟨b, m3, none⟩) (Nat.le_refl _) _⟩

theorem format_w (b : Nat) (w : World) (hA : Arr b w) (d : Int) (h0 : d ≤ 0) (h1 : -9223372036854775808 ≤ d) :
    Calls Ybaf.prog 13 #[.int .i64 d, .pointer (some ⟨b, 0, none⟩)] w fun e w' => ∃ m : Nat, e = .returned (.int .i64 m) ∧ m ≤ 31 ∧ Arr b w' ∧ Below b w w' := by
  by_cases hz : d = 0
  · subst hz
    exact format_zero b w hA
  · have hw := neg_wrap (d := d) (by omega) h1
    by_cases c1 : -d < 1000
    · exact format_nano b w hA d _ (by omega) hw (by omega) c1
    · by_cases c2 : -d < 1000000
      · exact format_micro b w hA d _ (by omega) hw (by omega) c2
      · by_cases c3 : -d < 1000000000
        · exact format_milli b w hA d _ (by omega) hw (by omega) c3
        · exact format_big b w hA d _ (by omega) hw (by omega) (by omega)

theorem heap_new (w : World) (o : Obj) : (w.alloc o).heap[w.heap.size]? = some o := by
  show (w.heap.push o)[w.heap.size]? = _
  simp

theorem arr_new (w : World) (C : Array Value) (h : C.toList = List.replicate 32 (.int .u8 0)) : Arr w.heap.size (w.alloc (.cells C 42)) := by
  have hc : ∀ i, i < 32 → C[i]? = some (.int .u8 0) := fun i hi => by
    rw [← Array.getElem?_toList, h, List.getElem?_replicate, if_pos hi]
  refine ⟨fun i hi => ⟨0, ?_, by decide, by decide⟩, fun i hi => ?_⟩
  · simp only [World.cell?, heap_new, hc i hi]
    rfl
  · simp only [World.frozen?, heap_new]
    simp

/-- The bytes that an array holds. -/
theorem Arr.bytes {b : Nat} {w : World} (h : Arr b w) : ∃ f : Nat → Int, ∀ i, i < 32 → w.cell? ⟨b, i, none⟩ = some (.int .u8 (f i)) := by
  refine ⟨fun i => if hi : i < 32 then Classical.choose (h.cell i hi) else 0, fun i hi => ?_⟩
  simp only [hi, dite_true]
  exact (Classical.choose_spec (h.cell i hi)).1

theorem Arr.text {b : Nat} {w : World} (h : Arr b w) (m : Nat) (hm : m ≤ 31) : ∃ s : ByteArray, (convert 45 9 (.slice (some ⟨b, m, none⟩) (32 - m) (32 - m))).run Ybaf.prog w = .ok (.string s) w := by
  obtain ⟨f, hf⟩ := h.bytes
  exact ⟨_, run_convert_bytes_arg w 45 5 Ybaf.underlying45 Ybaf.underlying5 b m (32 - m) (32 - m) ((List.range (32 - m)).map fun i => f (m + i)) (by simp) (fun i hi => by rw [hf (m + i) (by omega)]; simp [hi]) 9 Ybaf.underlying9⟩

set_option maxHeartbeats 1000000 in
theorem string_w (w : World) (d : Int) (h0 : d ≤ 0) (h1 : -9223372036854775808 ≤ d) :
    Calls Ybaf.prog 11 #[.int .i64 d] w fun e w' => ∃ s : ByteArray, e = .returned (.string s) ∧ Below w.heap.size w w' := by
  go_enter Ybaf.func11, Ybaf.ntmps11
  go_wp2_with fail
  go_at_call 13
  refine (format_w w.heap.size _ (arr_new w _ rfl) d h0 h1).mono ?_
  rintro e w1 ⟨m, rfl, hm, hA, hB⟩
  obtain ⟨s, hs⟩ := hA.text m hm
  have hl : (m : Int) ≤ 32 := by omega
  have hne : ¬ 32 = m := by omega
  have B1 : Hid (Below w.heap.size w w1) := ((Below.refl _ w).alloc (Nat.le_refl _) _).trans hB
  clear hA hB
  go_wp2_with fail
  go_ret
  exact ⟨s, rfl, B1.out⟩
end Go.Proofs.YbulkaukFmt
