/-
  OUR OWN: THE WALK OF 'LawS0060BKept' (function 6).
-/
import Derived.Test.YbulkafiBKeptParts
import Derived.LoopTactic
import Derived.Deep.CutRange
import Derived.BigQuiet
import Derived.Deep.QuietTactic
namespace Go.Proofs.Ybulkafi
open Go.RowKit

theorem wpList_build1_of {P : Program} {w : World} {ops : Array Oper} {rest : List Oper} {o : Oper} {a : Act} {Q : Exit → Act → World → Prop} (hg : o.guard = none) (t : TypeId) (i : Nat) (x : Operand) (ho : o.op = .build t #[(i, x)]) (v Z : Value) (hx : a.eval x = v) (hr : ∀ w, (Instr.build t #[(i, v)]).run P w = .ok Z w)
    (h : wpList P ops Q rest (a.put o.dst Z) w) : wpList P ops Q (o :: rest) a w := by
  refine wpList_plain hg fun K hK => ?_
  unfold Oper.wp execOp
  simp only [ho, List.map_toArray, List.map_cons, List.map_nil, hx, Sem.run_bind, hr, Result.andThen_ok]
  exact hK _ _ h

/-- A Node of which the field 'moving' alone is set. -/
theorem node_with : ∃ C : Addr → Array Value, (∀ p w, (Instr.build 58 #[(36, .pointer (some p))]).run Yba.prog w = .ok (.agg (C p)) w) ∧ ∀ p, (C p)[41]? = some (.pointer (some p)) :=
  ⟨fun p => (((Yba.prog.info? 58).bind (·.zero)).getD undef).cells.setIfInBounds 41 (.pointer (some p)), fun _ _ => by kernel_rfl, fun _ => by kernel_rfl⟩

set_option maxRecDepth 100000 in
set_option maxHeartbeats 1000000 in
theorem bkept_walk (a0 : Option Addr) (len0 cap0 : Nat) (cs0 : List Value) (a1 : Option Addr) (len1 cap1 : Nat) (cs1 : List Value) (w : World) (h0 : Lies w a0 len0 cs0) (h1 : Lies w a1 len1 cs1)
    (hm0 : len0 ≤ 1024) (hm1 : len1 ≤ 1024) (o0 : ∀ v ∈ cs0, ∃ n, v = .int .u8 n) (o1 : ∀ v ∈ cs1, ∃ s, v = .string s) :
    Calls Yba.prog 6 #[.slice a0 len0 cap0, .slice a1 len1 cap1] w fun e w' => e = .returned (.bool true) ∧ Below w.heap.size w w' := by
  have s65 : ∀ (w : World) (a : Option Addr) (n c : Nat), (binOp .neq 65 (.slice a n c) (.slice none 0 0)).run Yba.prog w = .ok (.bool (!a.isNone)) w := fun w a n c => run_neq_slice_nil_any w _ _ a n c 0 0 Yba.underlying65
  have s70 : ∀ (w : World) (a : Option Addr) (n c : Nat), (binOp .neq 70 (.slice a n c) (.slice none 0 0)).run Yba.prog w = .ok (.bool (!a.isNone)) w := fun w a n c => run_neq_slice_nil_any w _ _ a n c 0 0 Yba.underlying70
  have d0 : decide ((1024 : Int) < (len0 : Int)) = false := decide_eq_false (by omega)
  have d1 : decide ((1024 : Int) < (len1 : Int)) = false := decide_eq_false (by omega)
  have H0 : Hid (Lies w a0 len0 cs0) := h0
  have H1 : Hid (Lies w a1 len1 cs1) := h1
  clear h0 h1
  go_enter Yba.func6, Yba.ntmps6
  go_upto_if 22 with fail
  go_cut [5] from 21 to 28 (fun hv wx => Copied w.heap.size wx a0 len0 cs0 hv ∧ Below w.heap.size w wx)
  case first =>
    cases a0 with
    | none =>
      have C0 : Hid (Copied w.heap.size w none len0 cs0 (.slice none 0 0)) := copied_nil H0.out
      go_wp2_with fail
      go_meet
      case rel => exact ⟨C0.out, Below.refl _ _⟩
    | some x =>
      obtain ⟨w1, w2, r1, r2, c2, b2⟩ := copied_header (cap := cap0) H0.out hm0 (fun v hv => by obtain ⟨n, rfl⟩ := o0 v hv; rfl)
      have C2 : Hid (Copied w.heap.size w2 (some x) len0 cs0 (.slice (some ⟨w.heap.size, 0, none⟩) len0 len0)) := c2
      clear c2
      go_wp2_with fail
      go_meet
      case rel => exact ⟨C2.out, b2⟩
  case rest =>
    obtain ⟨⟨va, rfl, nva, g, hg, hva⟩, hb⟩ := hcut
    have NV : Hid (va.isNone = a0.isNone) := nva
    have HV : Hid (∀ k, (h : k < cs0.length) → va = some ⟨g, 0, none⟩ ∧ wc.cell? ⟨g, k, none⟩ = some cs0[k]) := hva
    clear nva hva
    go_upto_if 30 with fail
    go_cut [6, 7] from 29 to 46 (fun fv _ wx => Copied w.heap.size wx a1 len1 cs1 fv ∧ Below wc.heap.size wc wx)
    case first =>
      cases a1 with
      | none =>
        have C1 : Hid (Copied w.heap.size wc none len1 cs1 (.slice none 0 0)) := copied_nil H1.out
        go_wp2_with fail
        go_meet
        case rel => exact ⟨C1.out, Below.refl _ _⟩
      | some y =>
        obtain ⟨w1, r1, f1, b1⟩ := filled_made cs1 wc hm1
        have F1 : Hid (Filled wc.heap.size len1 cs1 0 w1) := f1
        clear f1
        obtain ⟨i9, hi9, _, hs9, _⟩ := info_parts info9
        have I9 : Hid (Yba.prog.info? 9 = some i9) := hi9
        have S9 : Hid (i9.size = 1) := hs9
        clear hi9 hs9
        go_wp2_with fail
        go_loopw [7] (fun i wr => ∃ k : Nat, k ≤ len1 ∧ i = .int .i64 k ∧ Filled wc.heap.size len1 cs1 k wr ∧ Below wc.heap.size wc wr) (fun i _ => len1 - (intOf i).toNat)
        case atStart => exact ⟨0, Nat.zero_le _, rfl, F1.out, b1⟩
        case round =>
          obtain ⟨k, hk, rfl, hF, hB⟩ := hrel
          have HF : Hid (Filled wc.heap.size len1 cs1 k wr) := hF
          clear hF
          by_cases hlt : k < len1
          · obtain ⟨hl1, _, b, off, hly⟩ := H1.out
            obtain ⟨hy, hcy⟩ := hly k (by omega)
            have hkc : k < cs1.length := by omega
            obtain ⟨s, hs⟩ := o1 cs1[k] (List.getElem_mem hkc)
            have hix : ∀ wz, (Instr.indexAt 70 (.slice (some y) len1 cap1) (.int .i64 k)).run Yba.prog wz = .ok (.pointer (some ⟨b, off + k, none⟩)) wz := idx_of Yba.underlying70 I9.out S9.out hy len1 cap1 k hlt
            have hsz : b < w.heap.size := World.block_lt_of_cell? w _ hcy
            have hld : wr.cell? ⟨b, off + k, none⟩ = some (.string s) := by
              rw [← hs]
              exact ((hB.cell (p := ⟨b, off + k, none⟩) (by have := hb.size; simp; omega)).trans (hb.cell (p := ⟨b, off + k, none⟩) hsz)).trans hcy
            obtain ⟨u, hcu⟩ := HF.out.cell k hlt
            have hfu := HF.out.free k
            have HS : Hid (cs1[k] = .string s) := hs
            have HL : Hid (cs1.length = len1) := hl1
            clear hy hcy hs hly hl1
            go_wp2_with fail
            go_roundw
            case rel =>
              refine ⟨k + 1, by omega, by go_num, ?_, hB.setCell (Nat.le_refl _) _⟩
              have := HF.out.step hkc HL.out
              rw [HS.out] at this
              exact this
            case measure => simp [intOf]; omega
          · obtain rfl : k = len1 := by omega
            go_wp2_with fail
            go_meet
            case rel => exact ⟨⟨some ⟨wc.heap.size, 0, none⟩, rfl, rfl, wc.heap.size, hb.size, fun j hj => ⟨rfl, HF.out.done H1.out.1 j hj⟩⟩, hB⟩
    case rest =>
      obtain ⟨⟨vb, rfl, nvb, g', hg', hvb⟩, hb'⟩ := hcut
      have NV' : Hid (vb.isNone = a1.isNone) := nvb
      have HV' : Hid (∀ k, (h : k < cs1.length) → vb = some ⟨g', 0, none⟩ ∧ wc.cell? ⟨g', k, none⟩ = some cs1[k]) := hvb
      clear nvb hvb
      have m61 : ∀ (w : World), (binOp .neq 61 (.map none) (.map none)).run Yba.prog w = .ok (.bool false) w := fun w => run_neq_map_nil w _ _ _ none Yba.underlying61
      have m62 : ∀ (w : World), (binOp .neq 62 (.map none) (.map none)).run Yba.prog w = .ok (.bool false) w := fun w => run_neq_map_nil w _ _ _ none Yba.underlying62
      have m64 : ∀ (w : World), (binOp .neq 64 (.map none) (.map none)).run Yba.prog w = .ok (.bool false) w := fun w => run_neq_map_nil w _ _ _ none Yba.underlying64
      have s60 : ∀ (w : World), (binOp .neq 60 (.slice none 0 0) (.slice none 0 0)).run Yba.prog w = .ok (.bool false) w := fun w => run_neq_slice_nil_any w _ _ none 0 0 0 0 Yba.underlying60
      have z65 : ∀ (w : World) (a : Option Addr) (n c : Nat), (binOp .eql 65 (.slice a n c) (.slice none 0 0)).run Yba.prog w = .ok (.bool a.isNone) w := fun w a n c => Lib.run_eql_slice_nil w _ _ a n c 0 0 Yba.underlying65
      have z63 : ∀ (w : World) (a : Option Addr) (n c : Nat), (binOp .eql 63 (.slice a n c) (.slice none 0 0)).run Yba.prog w = .ok (.bool a.isNone) w := fun w a n c => Lib.run_eql_slice_nil w _ _ a n c 0 0 Yba.underlying63
      have z70 : ∀ (w : World) (a : Option Addr) (n c : Nat), (binOp .eql 70 (.slice a n c) (.slice none 0 0)).run Yba.prog w = .ok (.bool a.isNone) w := fun w a n c => Lib.run_eql_slice_nil w _ _ a n c 0 0 Yba.underlying70
      have e51 := eq51
      have d51 := ne51
      obtain ⟨C, bu, h41⟩ := node_with
      have hC : ∀ o, ((wc.alloc o).alloc (.cells (C ⟨wc.heap.size, 0, none⟩) 58)).cell? ⟨wc.heap.size + 1, 41, none⟩ = some (.pointer (some ⟨wc.heap.size, 0, none⟩)) := fun o => by
        have e := heap_new (wc.alloc o) (.cells (C ⟨wc.heap.size, 0, none⟩) 58)
        rw [World.size_alloc] at e
        simp only [World.cell?, e, h41]
        rfl
      have nn := NV.out
      have nn' := NV'.out
      have hB0 : Below wc.heap.size wc wc := Below.refl _ _
      have hlen0 : cs0.length = len0 := H0.out.1
      have hlen1 : cs1.length = len1 := H1.out.1
      have L0 : Hid (cs0.length = len0) := hlen0
      have L1 : Hid (cs1.length = len1) := hlen1
      clear hlen0 hlen1
      have hw0 : w.heap.size ≤ wc.heap.size := Nat.le_trans hb.size hb'.size
      clear h41 s65 s70 d0 d1
      go_wp2_with (first | (go_at_call 10; refine (outbox_kept _ _ _ (hC _)).mono ?_; rintro e w3 ⟨rfl, rfl⟩) | ((with_reducible refine wpList_build1_of rfl 58 36 (.tmp 51) rfl (.pointer (some ⟨wc.heap.size, 0, none⟩)) _ ?hx (bu _) ?_); case hx => rfl))
      clear m61 m62 m64 s60 z65 e51 d51 hC bu
      go_loopw [11] (fun i wr => ∃ k : Nat, k ≤ len0 ∧ i = .int .i64 k ∧ wr.cell? ⟨wc.heap.size, 5, none⟩ = some (.slice va len0 len0) ∧ wr.cell? ⟨wc.heap.size, 3, none⟩ = some (.slice vb len1 len1) ∧ Below wc.heap.size wc wr) (fun i _ => len0 - (intOf i).toNat)
      case atStart => exact ⟨0, Nat.zero_le _, rfl, by simp [World.cell?_alloc_past], by simp [World.cell?_alloc_past], (hB0.alloc (Nat.le_refl _) _).alloc (by simp) _⟩
      case round =>
        obtain ⟨k, hk, rfl, h5, h3, hB⟩ := hrel
        by_cases hlt : k < len0
        · have hkc : k < cs0.length := by have := L0.out; omega
          obtain ⟨_, _, b, off, hly⟩ := H0.out
          obtain ⟨hy, hcy⟩ := hly k hkc
          obtain ⟨hz, hcz⟩ := HV.out k hkc
          obtain ⟨n, hs⟩ := o0 cs0[k] (List.getElem_mem hkc)
          obtain ⟨i5, hi5, _, hs5, _⟩ := info_parts info5
          have hix : ∀ wz, (Instr.indexAt 65 (.slice a0 len0 cap0) (.int .i64 k)).run Yba.prog wz = .ok (.pointer (some ⟨b, off + k, none⟩)) wz := idx_of Yba.underlying65 hi5 hs5 hy len0 cap0 k hlt
          have hiz : ∀ wz, (Instr.indexAt 65 (.slice va len0 len0) (.int .i64 k)).run Yba.prog wz = .ok (.pointer (some ⟨g, k, none⟩)) wz := by simpa using idx_of Yba.underlying65 hi5 hs5 hz len0 len0 k hlt
          have hld : wr.cell? ⟨b, off + k, none⟩ = some (.int .u8 n) := by
            rw [← hs]
            have hsz : b < w.heap.size := World.block_lt_of_cell? w _ hcy
            exact ((hB.cell (p := ⟨b, off + k, none⟩) (by simp; omega)).trans ((hb'.cell (p := ⟨b, off + k, none⟩) (by have := hb.size; simp; omega)).trans (hb.cell (p := ⟨b, off + k, none⟩) hsz))).trans hcy
          have hlz : wr.cell? ⟨g, k, none⟩ = some (.int .u8 n) := by
            rw [← hs]
            have hsz := World.block_lt_of_cell? _ _ hcz
            exact ((hB.cell (p := ⟨g, k, none⟩) (by have := hb'.size; simp at hsz ⊢; omega)).trans (hb'.cell (p := ⟨g, k, none⟩) hsz)).trans hcz
          clear hy hcy hz hcz hs hly hi5 hs5
          go_wp2_with fail
          go_quiet (fail)
          go_wp2
          go_roundw
          case rel => exact ⟨k + 1, by omega, by go_num, h5, h3, below_drewN hB _⟩
          case measure => simp [intOf]; omega
        · go_wp2_with fail
          have hw1 : Below wc.heap.size wc wr := hB
          clear h5 hB
          go_loopw [12] (fun i wr => ∃ k : Nat, k ≤ len1 ∧ i = .int .i64 k ∧ wr.cell? ⟨wc.heap.size, 3, none⟩ = some (.slice vb len1 len1) ∧ Below wc.heap.size wc wr) (fun i _ => len1 - (intOf i).toNat)
          case atStart => exact ⟨0, Nat.zero_le _, rfl, h3, hw1⟩
          case round =>
            clear h3 hw1 hlt
            obtain ⟨k, hk, rfl, h3, hB⟩ := hrel
            by_cases hlt : k < len1
            · have hkc : k < cs1.length := by have := L1.out; omega
              obtain ⟨_, _, b, off, hly⟩ := H1.out
              obtain ⟨hy, hcy⟩ := hly k hkc
              obtain ⟨hz, hcz⟩ := HV'.out k hkc
              obtain ⟨n, hs⟩ := o1 cs1[k] (List.getElem_mem hkc)
              obtain ⟨i9, hi9, _, hs9, _⟩ := info_parts info9
              obtain ⟨i26, hi26, _, hs26, _⟩ := info_parts info26
              have hix : ∀ wz, (Instr.indexAt 70 (.slice a1 len1 cap1) (.int .i64 k)).run Yba.prog wz = .ok (.pointer (some ⟨b, off + k, none⟩)) wz := idx_of Yba.underlying70 hi9 hs9 hy len1 cap1 k hlt
              have hiz : ∀ wz, (Instr.indexAt 63 (.slice vb len1 len1) (.int .i64 k)).run Yba.prog wz = .ok (.pointer (some ⟨g', k, none⟩)) wz := by simpa using idx_of Yba.underlying63 hi26 hs26 hz len1 len1 k hlt
              have hld : wr.cell? ⟨b, off + k, none⟩ = some (.string n) := by
                rw [← hs]
                have hsz : b < w.heap.size := World.block_lt_of_cell? w _ hcy
                exact ((hB.cell (p := ⟨b, off + k, none⟩) (by simp; omega)).trans ((hb'.cell (p := ⟨b, off + k, none⟩) (by have := hb.size; simp; omega)).trans (hb.cell (p := ⟨b, off + k, none⟩) hsz))).trans hcy
              have hlz : wr.cell? ⟨g', k, none⟩ = some (.string n) := by
                rw [← hs]
                have hsz := World.block_lt_of_cell? _ _ hcz
                exact (hB.cell (p := ⟨g', k, none⟩) hsz).trans hcz
              clear hy hcy hz hcz hs hly hi9 hs9 hi26 hs26
              go_wp2_with fail
              go_quiet (fail)
              go_wp2
              go_roundw
              case rel => exact ⟨k + 1, by omega, by go_num, h3, below_drewN hB _⟩
              case measure => simp [intOf]; omega
            · go_wp2_with fail
              go_ret
              exact ⟨rfl, (hb.trans (hb'.mono hb.size)).trans (hB.mono hw0)⟩

set_option maxRecDepth 100000 in
/-- One of the two is longer than 1024: true at once. -/
theorem bkept_long (a0 : Option Addr) (len0 cap0 : Nat) (a1 : Option Addr) (len1 cap1 : Nat) (w : World) (h : 1024 < len0 ∨ 1024 < len1) :
    Calls Yba.prog 6 #[.slice a0 len0 cap0, .slice a1 len1 cap1] w fun e w' => e = .returned (.bool true) ∧ Below w.heap.size w w' := by
  by_cases h0 : 1024 < len0
  · have d0 : decide ((1024 : Int) < (len0 : Int)) = true := decide_eq_true (by omega)
    go_enter Yba.func6, Yba.ntmps6
    go_wp2_with fail
    go_ret
    exact ⟨rfl, Below.refl _ _⟩
  · have d0 : decide ((1024 : Int) < (len0 : Int)) = false := decide_eq_false (by omega)
    have d1 : decide ((1024 : Int) < (len1 : Int)) = true := decide_eq_true (by omega)
    go_enter Yba.func6, Yba.ntmps6
    go_wp2_with fail
    go_ret
    exact ⟨rfl, Below.refl _ _⟩

theorem bkept_any (a0 : Option Addr) (len0 cap0 : Nat) (cs0 : List Value) (a1 : Option Addr) (len1 cap1 : Nat) (cs1 : List Value) (w : World) (h0 : Lies w a0 len0 cs0) (h1 : Lies w a1 len1 cs1)
    (o0 : ∀ v ∈ cs0, ∃ n, v = .int .u8 n) (o1 : ∀ v ∈ cs1, ∃ s, v = .string s) :
    Calls Yba.prog 6 #[.slice a0 len0 cap0, .slice a1 len1 cap1] w fun e w' => e = .returned (.bool true) ∧ Below w.heap.size w w' := by
  by_cases h : 1024 < len0 ∨ 1024 < len1
  · exact bkept_long a0 len0 cap0 a1 len1 cap1 w h
  · exact bkept_walk a0 len0 cap0 cs0 a1 len1 cap1 cs1 w h0 h1 (by omega) (by omega) o0 o1

theorem lies_of {w : World} {x : Addr} {len : Nat} {vs : List Value} (hl : len ≤ vs.length) (hc : ∀ i, (h : i < vs.length) → w.cell? (x.add i) = some vs[i]) : Lies w (some x) len (vs.take len) := by
  refine ⟨by simp; omega, fun h => by simp at h, x.block, x.off, fun k hk => ?_⟩
  have hk' : k < vs.length := by simp at hk; omega
  have h0 := hc 0 (by omega)
  obtain ⟨b, off, spot⟩ := x
  obtain rfl : spot = none := by simpa [Addr.add] using World.cell?_spot h0
  have := hc k hk'
  rw [WideShapes.add_plain] at this
  exact ⟨rfl, by simpa using this⟩
theorem lies_nil (w : World) : Lies w none 0 [] := ⟨rfl, fun _ => rfl, 0, 0, fun k hk => absurd hk (by simp)⟩
end Go.Proofs.Ybulkafi
