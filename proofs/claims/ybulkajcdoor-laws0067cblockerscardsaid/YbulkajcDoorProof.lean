/-
  THE ROW OF 'LawS0067CBlockers' PROVED, AND ITS TIED CARD: the frame after the guide's Mapy and Toyas texts, turned; the walk our own (YbulkajcDoorLawA.lean).
-/
import Derived.Test.YbulkajcDoorLaid
import Derived.Test.YbulkajcDoorTie
import Derived.Test.YbulkajcDoorCards
import Derived.Lib.SmallJoins
import Derived.Deep.Slices
import Derived.ChangeOld
import Derived.SevenTiedAt
namespace Go.Proofs.YbulkajcDoor
open Go.ChangeShapes Go.WideShapes Go.ChangeAt Go.RowKit

theorem own : ownKnob Ybad.prog.godebug = none := by kernel_rfl
theorem laidOut : laidOutB Ybad.prog = true := by kernel_rfl
theorem cells134 : Ybad.prog.cellsOf 134 = 4 := by kernel_rfl
theorem cells5' : Ybad.prog.cellsOf 5 = 1 := by kernel_rfl

/-- The door's own heap meets the condition. -/
theorem door_met (os : Os) (args : Array Value) : laidMetH Ybad.prog Rows.lawS0067CBlockersRow.laid ((World.doorLaid Ybad.prog 53 os).forCall (fun _ _ => 0) ⟨#[], args, []⟩).memory :=
  laidMetH_of_parts3 (fuel := 8) (laidMet_of_run' 8 (by kernel_rfl) (by kernel_rfl)) (by kernel_rfl) (by kernel_rfl)

set_option maxRecDepth 100000 in
/-- One item, out of its four cells. -/
theorem item_of {H : Type} {enc : TypeId × Value → H} {W : World} {n : Nat} {cs : List Value} {x : DataW H × List MemPlace} (h : DataW.trod enc Ybad.prog W 0 (fun _ => true) true n 134 cs = some x) :
    ∃ (a b c : Int) (v : Bool), cs = [.int .u8 a, .int .u8 b, .int .u8 c, .bool v] ∧ 0 ≤ a ∧ a ≤ 255 ∧ 0 ≤ b ∧ b ≤ 255 ∧ 0 ≤ c ∧ c ≤ 255 := by
  obtain ⟨y0, y1, y2, y3, m, rfl, hl, h0, h1, h2, h3⟩ := Go.Joins.trod_struct4 Ybad.underlying134 h
  rw [cells134] at hl
  match cs, hl with
  | [c0, c1, c2, c3], _ =>
    simp only [cells5', cells4] at h0 h1 h2 h3
    obtain ⟨a, e0, _, w0⟩ := DataW.trod_int Ybad.underlying5 h0
    obtain ⟨b, e1, _, w1⟩ := DataW.trod_int Ybad.underlying5 h1
    obtain ⟨c, e2, _, w2⟩ := DataW.trod_int Ybad.underlying5 h2
    obtain ⟨v, e3, _⟩ := DataW.trod_bool Ybad.underlying4 h3
    simp at e0 e1 e2 e3
    subst e0 e1 e2 e3
    simp [Lit.wf, IntKind.min, IntKind.max, IntKind.signed, IntKind.bits] at w0 w1 w2
    exact ⟨a, b, c, v, rfl, by omega, by omega, by omega, by omega, by omega, by omega⟩

/-- What the walk is told of the items, out of the reading. -/
theorem items_of {H : Type} {enc : TypeId × Value → H} {W : World} {fuel : Nat} {ao : Option Addr} {len cap : Nat} {x : DataW H × List MemPlace} (h : DataW.trod enc Ybad.prog W 0 (fun _ => true) true fuel 130 [.slice ao len cap] = some x) :
    ∃ (ix im ik : Nat → Int) (iw : Nat → Bool) (b off : Nat), ItemsAt W ao len ix im ik iw b off := by
  rcases Go.Deep.open_slice Ybad.underlying130 h with ⟨hcs, _⟩ | ⟨a, l, c, m, n, D, Pl, hcs, _, hl, _, hm, _, hx⟩
  · simp at hcs
    obtain ⟨rfl, rfl, rfl⟩ := hcs
    exact ⟨fun _ => 0, fun _ => 0, fun _ => 0, fun _ => false, 0, 0, fun i hi => absurd hi (by omega), fun i hi => absurd hi (by omega), fun i hi => absurd hi (by omega), fun i hi => absurd hi (by omega), fun i hi => absurd hi (by omega), fun i hi => absurd hi (by omega), fun i hi => absurd hi (by omega), fun i hi => absurd hi (by omega), fun i hi => absurd hi (by omega), fun i hi => absurd hi (by omega), fun i hi => absurd hi (by omega)⟩
  · simp at hcs
    obtain ⟨rfl, rfl, rfl⟩ := hcs
    simp only [if_true] at hm
    rw [cells134] at hx
    have each : ∀ i, ∃ t : Int × Int × Int × Bool, i < len → W.cells? 0 (a.add (i * 4)) 4 = some [.int .u8 t.1, .int .u8 t.2.1, .int .u8 t.2.2.1, .bool t.2.2.2] ∧ 0 ≤ t.1 ∧ t.1 ≤ 255 ∧ 0 ≤ t.2.1 ∧ t.2.1 ≤ 255 ∧ 0 ≤ t.2.2.1 ∧ t.2.2.1 ≤ 255 := by
      intro i
      by_cases hi : i < len
      · obtain ⟨cs', h1, h2⟩ := hx i (by omega)
        obtain ⟨p, q, r, v, rfl, g⟩ := item_of h2
        exact ⟨(p, q, r, v), fun _ => ⟨h1, g⟩⟩
      · exact ⟨(0, 0, 0, false), fun h => absurd h hi⟩
    by_cases hl0 : len = 0
    · subst hl0
      exact ⟨fun _ => 0, fun _ => 0, fun _ => 0, fun _ => false, 0, 0, fun i hi => absurd hi (by omega), fun i hi => absurd hi (by omega), fun i hi => absurd hi (by omega), fun i hi => absurd hi (by omega), fun i hi => absurd hi (by omega), fun i hi => absurd hi (by omega), fun i hi => absurd hi (by omega), fun i hi => absurd hi (by omega), fun i hi => absurd hi (by omega), fun i hi => absurd hi (by omega), fun i hi => absurd hi (by omega)⟩
    · obtain ⟨b, off, spot⟩ := a
      have hspot : spot = none := by
        obtain ⟨t, ht⟩ := each 0
        obtain ⟨_, _, hc⟩ := World.cells?_some (ht (by omega)).1
        have h0 := hc 0 (by omega)
        simp only [Nat.zero_mul, Addr.add, if_true] at h0
        exact World.cell?_spot h0
      subst hspot
      have each' : ∃ T : Nat → Int × Int × Int × Bool, ∀ i, i < len → W.cells? 0 ((⟨b, off, none⟩ : Addr).add (i * 4)) 4 = some [.int .u8 (T i).1, .int .u8 (T i).2.1, .int .u8 (T i).2.2.1, .bool (T i).2.2.2] ∧ 0 ≤ (T i).1 ∧ (T i).1 ≤ 255 ∧ 0 ≤ (T i).2.1 ∧ (T i).2.1 ≤ 255 ∧ 0 ≤ (T i).2.2.1 ∧ (T i).2.2.1 ≤ 255 :=
        ⟨fun i => Classical.choose (each i), fun i => Classical.choose_spec (each i)⟩
      obtain ⟨T, hT⟩ := each'
      have cell : ∀ i, i < len → ∀ j v, ([.int .u8 (T i).1, .int .u8 (T i).2.1, .int .u8 (T i).2.2.1, .bool (T i).2.2.2] : List Value)[j]? = some v → j < 4 → W.cell? ⟨b, off + i * 4 + j, none⟩ = some v := by
        intro i hi j v hv hj
        obtain ⟨_, _, hc⟩ := World.cells?_some (hT i hi).1
        have hj' := hc j hj
        rw [hv, add_plain, add_plain] at hj'
        exact hj'
      exact ⟨fun i => (T i).1, fun i => (T i).2.1, fun i => (T i).2.2.1, fun i => (T i).2.2.2, b, off, fun i hi => rfl, fun i hi => cell i hi 0 _ rfl (by omega), fun i hi => cell i hi 1 _ rfl (by omega), fun i hi => cell i hi 2 _ rfl (by omega), fun i hi => cell i hi 3 _ rfl (by omega),
        fun i hi => (hT i hi).2.1, fun i hi => (hT i hi).2.2.1, fun i hi => (hT i hi).2.2.2.1, fun i hi => (hT i hi).2.2.2.2.1, fun i hi => (hT i hi).2.2.2.2.2.1, fun i hi => (hT i hi).2.2.2.2.2.2⟩

set_option maxHeartbeats 2000000 in
set_option maxRecDepth 100000 in
theorem lifted (os : Os) (started : os.Started) (H : Type) (enc : TypeId × Value → H) :
    ReturnsInHanded {} Ybad.checked os 5 .any (fun w args => (Rows.lawS0067CBlockersSpec.pre enc Ybad.prog Ybad.f5 [] false w args ∧ laidMetH Ybad.prog Rows.lawS0067CBlockersRow.laid w) ∧ sizedMet enc Ybad.prog Ybad.f5 (OpenSpec.ofChange Rows.lawS0067CBlockersSpec) false w args)
      (Rows.lawS0067CBlockersSpec.post enc Ybad.prog Ybad.f5 false true false false) := by
  refine returnsInHanded_of_change_and (C := Ybad.checked) (X := fun w _ => laidMetH Ybad.prog Rows.lawS0067CBlockersRow.laid w) (fun _ _ _ hh h => h.of_heap hh) own started (by kernel_rfl) Ybad.func5
    (ChangeSpec.witness_shaped (enc := enc) (C := Ybad.checked) (os := os) (X := fun w _ => laidMetH Ybad.prog Rows.lawS0067CBlockersRow.laid w) false (World.doorLaid Ybad.prog 53 os) #[.bool false, .int .u8 0, .int .u16 0, .slice none 0 0, .int .u16 0, .int .u8 0] 8 rfl (World.shaped_of_RefB (by kernel_rfl) (by kernel_rfl)) (by kernel_rfl) (by kernel_rfl) (by kernel_rfl) (door_met os _)) ?_
  intro W base args ds gs before hval0 hW _ _ hL _
  have hval : ∀ (j : Nat) t v, Ybad.f5.params[j]? = some t → args[j]? = some v → Value.okWide Ybad.prog W .any base t v := hval0
  have hW' := hW
  obtain ⟨p, q, hA0, hV0, rfl, hfz, hnd⟩ := hW
  have hA : DataW.TrodAll enc Ybad.prog W 0 (fun _ => true) true Ybad.f5.params.toList args.toList ds p := hA0
  have hV : DataW.TrodVars enc Ybad.prog W (fun _ => true) Rows.lawS0067CBlockersSpec.vars gs q := hV0
  rw [Ybad.params5] at hA hval
  obtain ⟨v0, vs0, d0, ds0, p0, q0, hargs, rfl, rfl, h0, r0⟩ := trodAll_cons hA
  obtain ⟨v1, vs1, d1, ds1, p1, q1, rfl, rfl, rfl, h1, r1⟩ := trodAll_cons r0
  obtain ⟨v2, vs2, d2, ds2, p2, q2, rfl, rfl, rfl, h2, r2⟩ := trodAll_cons r1
  obtain ⟨v3, vs3, d3, ds3, p3, q3, rfl, rfl, rfl, h3, r3⟩ := trodAll_cons r2
  obtain ⟨v4, vs4, d4, ds4, p4, q4, rfl, rfl, rfl, h4, r4⟩ := trodAll_cons r3
  obtain ⟨v5, vs5, d5, ds5, p5, q5, rfl, rfl, rfl, h5, r5⟩ := trodAll_cons r4
  obtain ⟨rfl, rfl, rfl⟩ := trodAll_nil r5
  obtain rfl : args = #[v0, v1, v2, v3, v4, v5] := by cases args; simp_all
  obtain ⟨a0, rfl, rfl, rfl⟩ := open_bool Ybad.underlying4 (hval 0 4 v0 rfl rfl) h0
  obtain ⟨a1, rfl, rfl, rfl, w1⟩ := open_int Ybad.underlying5 (hval 1 5 v1 rfl rfl) h1
  obtain ⟨a2, rfl, rfl, rfl, w2⟩ := open_int Ybad.underlying91 (hval 2 91 v2 rfl rfl) h2
  obtain ⟨ao, len, cap, rfl⟩ := okWide_slice Ybad.underlying130 (hval 3 130 v3 rfl rfl)
  obtain ⟨a4, rfl, rfl, rfl, w4⟩ := open_int Ybad.underlying91 (hval 4 91 v4 rfl rfl) h4
  obtain ⟨a5, rfl, rfl, rfl, w5⟩ := open_int Ybad.underlying5 (hval 5 5 v5 rfl rfl) h5
  have k3 := h3
  have lt3 : ∀ x ∈ p3, x.block < W.heap.size := by obtain ⟨m, hm⟩ := k3; exact DataW.trod_lt m _ _ _ hm
  obtain ⟨ix, im, ik, iw, ib, ioff, hI⟩ : ∃ (ix im ik : Nat → Int) (iw : Nat → Bool) (b off : Nat), ItemsAt W ao len ix im ik iw b off := by
    obtain ⟨fuel, hf⟩ := h3
    exact items_of (by simpa [Value.cells] using hf)
  have hT := table_of_laid hL
  have hsz : 4 < W.heap.size := World.block_lt_of_cell? W _ (hT 0 0 (by omega) (by omega))
  clear hA0 hval0
  have hrun : Calls Ybad.prog 5 #[.bool a0, .int .u8 a1, .int .u16 a2, .slice ao len cap, .int .u16 a4, .int .u8 a5] W fun e w' => e = .returned (.bool true) ∧ Below W.heap.size W w' := by
    have b1 : 0 ≤ a1 ∧ a1 ≤ 255 := by simp [Lit.wf, IntKind.min, IntKind.max, IntKind.signed, IntKind.bits] at w1; omega
    have b4 : 0 ≤ a4 ∧ a4 ≤ 65535 := by simp [Lit.wf, IntKind.min, IntKind.max, IntKind.signed, IntKind.bits] at w4; omega
    have b5 : 0 ≤ a5 ∧ a5 ≤ 255 := by simp [Lit.wf, IntKind.min, IntKind.max, IntKind.signed, IntKind.bits] at w5; omega
    by_cases hN : 1024 < len
    · exact law_long a0 a1 a2 ao len cap a4 a5 W hN
    · exact law_any a0 a1 a2 ao len cap a4 a5 W (by omega) b1.1 b1.2 b4.1 b4.2 b5.1 b5.2 hT hsz ix im ik iw ib ioff hI
  refine hrun.mono fun e W' ⟨he, bel⟩ => ?_
  subst he
  obtain ⟨g0, t0, cs0, f0, e0, u0, g1, t1, cs1, f1, e1, u1, rfl, _⟩ := trodVars_two hV
  exact ⟨_, rfl, _, _, _, [], _, _, hW', trodAll_mk1 (shut_bool Ybad.underlying4 _),
    (trodAll_cons_mk (shut_bool Ybad.underlying4 _) (trodAll_cons_mk (shut_int Ybad.underlying5 w1) (trodAll_cons_mk (shut_int Ybad.underlying91 w2) (trodAll_cons_mk (Below.trod laidOut (by kernel_rfl) (of_decide_eq_true (by kernel_rfl)) k3 bel lt3) (trodAll_cons_mk (shut_int Ybad.underlying91 w4) (trodAll_cons_mk (shut_int Ybad.underlying5 w5) trodAll_mk0)))))),
    Below.trodVars laidOut bel (by kernel_rfl) hV, bel.frame _, fun h => by cases h⟩

/-- THE ROW. -/
theorem row_holds : Rows.LawS0067CBlockersSaid :=
  OpenClaim.holds_of_wide 5 Ybad.f5 rfl rfl rfl rfl rfl rfl rfl ⟨rfl, rfl, rfl, rfl, rfl⟩ rfl rfl rfl rfl rfl (by kernel_rfl) Ybad.func5 (by kernel_rfl)
    (of_decide_eq_true (by kernel_rfl)) (by unfold Func.isWrapper; rw [if_neg (of_decide_eq_false (by kernel_rfl))]; exact ⟨rfl, rfl⟩)
    (fun os started H enc _ => lifted os started H enc)

/-- THE TIED CARD. -/
theorem card_holds : Rows.LawS0067CBlockersCardSaid :=
  Claim7.holds_tied_plain_at .later [] [.data, .data] true (true, "79490115add4498c2632a3abcbd8acc7a4d62208b89fb23fc612917e1ae9e5f9") true
    row_holds (fun _ h => by cases h) (by kernel_rfl) (fun _ h => by cases h) lawS0067CBlockers_row_tie rfl ⟨rfl, rfl⟩ (by kernel_rfl) rfl
    (fun f fn hf hfn => by
      obtain rfl : f = 5 := Option.some.inj ((show Ybad.prog.funcNamed Rows.lawS0067CBlockersRow.func = some 5 by kernel_rfl).symm.trans hf) |>.symm
      obtain rfl : fn = Ybad.f5 := (Option.some.inj (Ybad.func5.symm.trans hfn)).symm
      exact ⟨by kernel_rfl, fun j t ht => by
        rw [Ybad.params5] at ht
        have h3 : t = 4 ∨ t = 5 ∨ t = 91 ∨ t = 130 := by
          rcases j with _ | _ | _ | _ | _ | _ | j
          · exact .inl (by simpa using ht.symm)
          · exact .inr (.inl (by simpa using ht.symm))
          · exact .inr (.inr (.inl (by simpa using ht.symm)))
          · exact .inr (.inr (.inr (by simpa using ht.symm)))
          · exact .inr (.inr (.inl (by simpa using ht.symm)))
          · exact .inr (.inl (by simpa using ht.symm))
          · simp at ht
        rcases h3 with rfl | rfl | rfl | rfl
        · exact (show Ybad.prog.wantsStandIn 4 = false by kernel_rfl)
        · exact (show Ybad.prog.wantsStandIn 5 = false by kernel_rfl)
        · exact (show Ybad.prog.wantsStandIn 91 = false by kernel_rfl)
        · exact (show Ybad.prog.wantsStandIn 130 = false by kernel_rfl)⟩)
    (by kernel_rfl)
#print axioms card_holds
end Go.Proofs.YbulkajcDoor
