/-
  OUR OWN: THE WALK OF '(time.Duration).format' (function 13), for every duration that is not positive.
-/
import Derived.Test.YbulkaukFmtFrac
import Derived.Lib.LazyBuf
namespace Go.Proofs.YbulkaukFmt
open Go.RowKit

/-- 'copy(buf[29:], "µ")'. -/
theorem copied (b : Nat) (w : World) (h : Arr b w) : ∃ w1, (∀ ty, (Builtin.copy_ #[45, 9] ty #[.slice (some ⟨b, 29, none⟩) 3 3, .string ⟨#[194, 181]⟩]).run Ybaf.prog w = .ok (goInt 2) w1) ∧ Arr b w1 ∧ Below b w w1 := by
  refine ⟨_, fun ty => run_copy_string w 45 9 ty 5 b 29 3 3 ⟨#[194, 181]⟩ Ybaf.underlying45 (fun _ => by kernel_rfl) (by decide) (fun j hj => ?_) (fun j hj => ?_), ?_, ?_⟩
  · obtain ⟨x, hx, _⟩ := h.cell (29 + j) (by have : j < 2 := hj; omega)
    rw [hx]; rfl
  · exact h.open_ (29 + j) (by have : j < 2 := hj; omega)
  · simp [World.setCells]
    exact (h.set (i := 29) (by decide) (by decide) (by decide)).set (by decide) (by decide) (by decide)
  · simp [World.setCells]
    exact ((Below.refl b w).setCell (p := ⟨b, 29, none⟩) (Nat.le_refl _) _).setCell (p := ⟨b, 30, none⟩) (Nat.le_refl _) _

set_option maxHeartbeats 1000000 in
theorem format_zero (b : Nat) (w : World) (hA : Arr b w) :
    Calls Ybaf.prog 13 #[.int .i64 0, .pointer (some ⟨b, 0, none⟩)] w fun e w' => ∃ m : Nat, e = .returned (.int .i64 m) ∧ m ≤ 31 ∧ Arr b w' ∧ Below b w w' := by
  have HA : Hid (Arr b w) := hA
  obtain ⟨x0, hx0, _⟩ := hA.cell 31 (by decide)
  have hf0 := hA.open_ 31 (by decide)
  obtain ⟨x1, hx1, _⟩ := hA.cell 30 (by decide)
  have hf1 := hA.open_ 30 (by decide)
  have hx1' : ∀ v, (w.setCell ⟨b, 31, none⟩ v).cell? ⟨b, 30, none⟩ = some (.int .u8 x1) := fun v => by rw [World.cell?_setCell_other _ _ _ _ (by simp)]; exact hx1
  clear hA
  go_enter Ybaf.func13, Ybaf.ntmps13
  go_wp2_with fail
  go_ret
  exact ⟨30, rfl, by decide, (HA.out.set (i := 31) (by decide) (by decide) (by decide)).set (i := 30) (by decide) (by decide) (by decide), ((Below.refl b w).setCell (p := ⟨b, 31, none⟩) (Nat.le_refl _) _).setCell (p := ⟨b, 30, none⟩) (Nat.le_refl _) _⟩

theorem neg_wrap {d : Int} (h0 : d < 0) (h1 : -9223372036854775808 ≤ d) : IntKind.u64.wrap (-IntKind.u64.wrap d) = -d := by
  simp [IntKind.wrap, IntKind.signed, IntKind.bits]
  omega

set_option maxHeartbeats 1000000 in
theorem format_nano (b : Nat) (w : World) (hA : Arr b w) (d u : Int) (h0 : d < 0) (hw : IntKind.u64.wrap (-IntKind.u64.wrap d) = u) (hu : 0 < u) (h1 : u < 1000) :
    Calls Ybaf.prog 13 #[.int .i64 d, .pointer (some ⟨b, 0, none⟩)] w fun e w' => ∃ m : Nat, e = .returned (.int .i64 m) ∧ m ≤ 31 ∧ Arr b w' ∧ Below b w w' := by
  have HA : Hid (Arr b w) := hA
  obtain ⟨x0, hx0, _⟩ := hA.cell 31 (by decide)
  have hf0 := hA.open_ 31 (by decide)
  obtain ⟨x1, hx1, _⟩ := hA.cell 30 (by decide)
  have hf1 := hA.open_ 30 (by decide)
  have hx1' : ∀ v, (w.setCell ⟨b, 31, none⟩ v).cell? ⟨b, 30, none⟩ = some (.int .u8 x1) := fun v => by rw [World.cell?_setCell_other _ _ _ _ (by simp)]; exact hx1
  clear hA
  have b2 : u < 1000000000 := by omega
  go_enter Ybaf.func13, Ybaf.ntmps13
  go_wp2_with fail
  go_at_call 14
  refine (fmtFrac_w b 30 32 0 (by decide) (by decide) u (by omega) (by omega) _ ((HA.out.set (i := 31) (by decide) (by decide) (by decide)).set (i := 30) (by decide) (by decide) (by decide))).mono ?_
  rintro e w1 ⟨m1, u1, rfl, hu1, hm1, hm1', hA1, hB1⟩
  have B1 : Hid (Below b w w1) := (((Below.refl b w).setCell (p := ⟨b, 31, none⟩) (Nat.le_refl _) _).setCell (p := ⟨b, 30, none⟩) (Nat.le_refl _) _).trans hB1
  have A1 : Hid (Arr b w1) := hA1
  simp only [Int.pow_zero, Int.ediv_one] at hu1
  subst hu1
  have hl1 : (m1 : Int) ≤ 32 := by omega
  clear hA1 hB1 hx0 hf0 hx1 hf1 hx1'
  go_wp2_with fail
  go_at_call 15
  refine (fmtInt_w b m1 32 (by omega) u1 3 (by omega) (by omega) (by omega) (by decide) (by omega) _ A1.out).mono ?_
  rintro e w2 ⟨m2, rfl, hm2, hm2', hA2, hB2⟩
  obtain ⟨m3, rfl⟩ : ∃ m3, m2 = m3 + 1 := ⟨m2 - 1, by omega⟩
  obtain ⟨x2, hx2, _⟩ := hA2.cell m3 (by omega)
  have hf2 := hA2.open_ m3 (by omega)
  have hl3 : (m3 : Int) < 32 := by omega
  have A2 : Hid (Arr b w2) := hA2
  have B2 : Hid (Below b w w2) := B1.out.trans hB2
  clear hA2 hB2
  go_wp2_with fail
  go_ret
  exact ⟨m3, by go_num, by omega, A2.out.set (by omega) (by decide) (by decide), B2.out.setCell (p := ⟨b, m3, none⟩) (Nat.le_refl _) _⟩

set_option maxHeartbeats 1000000 in
theorem format_milli (b : Nat) (w : World) (hA : Arr b w) (d u : Int) (h0 : d < 0) (hw : IntKind.u64.wrap (-IntKind.u64.wrap d) = u) (hu : 1000000 ≤ u) (h1 : u < 1000000000) :
    Calls Ybaf.prog 13 #[.int .i64 d, .pointer (some ⟨b, 0, none⟩)] w fun e w' => ∃ m : Nat, e = .returned (.int .i64 m) ∧ m ≤ 31 ∧ Arr b w' ∧ Below b w w' := by
  have HA : Hid (Arr b w) := hA
  obtain ⟨x0, hx0, _⟩ := hA.cell 31 (by decide)
  have hf0 := hA.open_ 31 (by decide)
  obtain ⟨x1, hx1, _⟩ := hA.cell 30 (by decide)
  have hf1 := hA.open_ 30 (by decide)
  have hx1' : ∀ v, (w.setCell ⟨b, 31, none⟩ v).cell? ⟨b, 30, none⟩ = some (.int .u8 x1) := fun v => by rw [World.cell?_setCell_other _ _ _ _ (by simp)]; exact hx1
  clear hA
  have b2 : ¬ u < 1000000 := by omega
  have b3 : ¬ u < 1000 := by omega
  have b4 : ¬ u = 0 := by omega
  go_enter Ybaf.func13, Ybaf.ntmps13
  go_wp2_with fail
  go_at_call 14
  refine (fmtFrac_w b 30 32 6 (by decide) (by decide) u (by omega) (by omega) _ ((HA.out.set (i := 31) (by decide) (by decide) (by decide)).set (i := 30) (by decide) (by decide) (by decide))).mono ?_
  rintro e w1 ⟨m1, u1, rfl, hu1, hm1, hm1', hA1, hB1⟩
  have B1 : Hid (Below b w w1) := (((Below.refl b w).setCell (p := ⟨b, 31, none⟩) (Nat.le_refl _) _).setCell (p := ⟨b, 30, none⟩) (Nat.le_refl _) _).trans hB1
  have A1 : Hid (Arr b w1) := hA1
  have hu2 : 0 ≤ u1 := by omega
  have hu3 : u1 < 1000 := by omega
  have hl1 : (m1 : Int) ≤ 32 := by omega
  clear hA1 hB1 hx0 hf0 hx1 hf1 hx1' hu1
  go_wp2_with fail
  go_at_call 15
  refine (fmtInt_w b m1 32 (by omega) u1 3 (by omega) (by omega) (by omega) (by decide) (by omega) _ A1.out).mono ?_
  rintro e w2 ⟨m2, rfl, hm2, hm2', hA2, hB2⟩
  obtain ⟨m3, rfl⟩ : ∃ m3, m2 = m3 + 1 := ⟨m2 - 1, by omega⟩
  obtain ⟨x2, hx2, _⟩ := hA2.cell m3 (by omega)
  have hf2 := hA2.open_ m3 (by omega)
  have hl3 : (m3 : Int) < 32 := by omega
  have A2 : Hid (Arr b w2) := hA2
  have B2 : Hid (Below b w w2) := B1.out.trans hB2
  clear hA2 hB2
  go_wp2_with fail
  go_ret
  exact ⟨m3, by go_num, by omega, A2.out.set (by omega) (by decide) (by decide), B2.out.setCell (p := ⟨b, m3, none⟩) (Nat.le_refl _) _⟩

set_option maxHeartbeats 1000000 in
theorem format_micro (b : Nat) (w : World) (hA : Arr b w) (d u : Int) (h0 : d < 0) (hw : IntKind.u64.wrap (-IntKind.u64.wrap d) = u) (hu : 1000 ≤ u) (h1 : u < 1000000) :
    Calls Ybaf.prog 13 #[.int .i64 d, .pointer (some ⟨b, 0, none⟩)] w fun e w' => ∃ m : Nat, e = .returned (.int .i64 m) ∧ m ≤ 31 ∧ Arr b w' ∧ Below b w w' := by
  have HA : Hid (Arr b w) := hA
  obtain ⟨x0, hx0, _⟩ := hA.cell 31 (by decide)
  have hf0 := hA.open_ 31 (by decide)
  obtain ⟨wc, hcopy, hAc, hBc⟩ := copied b _ (hA.set (i := 31) (by decide) (y := 115) (by decide) (by decide))
  have AC : Hid (Arr b wc) := hAc
  have BC : Hid (Below b w wc) := ((Below.refl b w).setCell (p := ⟨b, 31, none⟩) (Nat.le_refl _) _).trans hBc
  clear hA hAc hBc
  have b2 : u < 1000000000 := by omega
  have b3 : ¬ u < 1000 := by omega
  have b4 : ¬ u = 0 := by omega
  go_enter Ybaf.func13, Ybaf.ntmps13
  go_wp2_with fail
  go_at_call 14
  refine (fmtFrac_w b 29 32 3 (by decide) (by decide) u (by omega) (by omega) _ AC.out).mono ?_
  rintro e w1 ⟨m1, u1, rfl, hu1, hm1, hm1', hA1, hB1⟩
  have B1 : Hid (Below b w w1) := BC.out.trans hB1
  have A1 : Hid (Arr b w1) := hA1
  have hu2 : 0 ≤ u1 := by omega
  have hu3 : u1 < 1000 := by omega
  have hl1 : (m1 : Int) ≤ 32 := by omega
  clear hA1 hB1 hx0 hf0 hu1 hcopy
  go_wp2_with fail
  go_at_call 15
  refine (fmtInt_w b m1 32 (by omega) u1 3 (by omega) (by omega) (by omega) (by decide) (by omega) _ A1.out).mono ?_
  rintro e w2 ⟨m2, rfl, hm2, hm2', hA2, hB2⟩
  obtain ⟨m3, rfl⟩ : ∃ m3, m2 = m3 + 1 := ⟨m2 - 1, by omega⟩
  obtain ⟨x2, hx2, _⟩ := hA2.cell m3 (by omega)
  have hf2 := hA2.open_ m3 (by omega)
  have hl3 : (m3 : Int) < 32 := by omega
  have A2 : Hid (Arr b w2) := hA2
  have B2 : Hid (Below b w w2) := B1.out.trans hB2
  clear hA2 hB2
  go_wp2_with fail
  go_ret
  exact ⟨m3, by go_num, by omega, A2.out.set (by omega) (by decide) (by decide), B2.out.setCell (p := ⟨b, m3, none⟩) (Nat.le_refl _) _⟩

end Go.Proofs.YbulkaukFmt
