/-
  OUR OWN: 'zzs0060cbuild' (function 11): some string of the slice's length; and THE WALK OF 'LawS0060CModel' (function 7).
-/
import Derived.Test.YbulkafiModel
import Derived.Test.YbulkafiBKeptWalk
namespace Go.Proofs.Ybulkafi
open Go.RowKit

/-- The first 'len' cells of block g are bytes, not frozen. -/
def ByteRow (g len : Nat) (w : World) : Prop := ∃ l : List UInt8, l.length = len ∧ ∀ j, (h : j < l.length) → w.cell? ⟨g, j, none⟩ = some (.int .u8 (l[j].toNat : Int)) ∧ w.frozen? ⟨g, j, none⟩ = false

theorem byteRow_made {len : Nat} (w : World) (hle : len ≤ 1024) :
    ∃ w1, (Instr.makeSlice 65 (.int .i64 len) (.int .i64 len)).run Yba.prog w = .ok (.slice (some ⟨w.heap.size, 0, none⟩) len len) w1 ∧ ByteRow w.heap.size len w1 ∧ Below w.heap.size w w1 := by
  obtain ⟨i, hi, hz, hs, hby⟩ := info_parts info5
  obtain ⟨w1, hrun, hown, hg⟩ := run_make_full (P := Yba.prog) w w.heap.size 65 5 i _ 1 Yba.underlying65 hi hz hs .i64 .i64 len (by rw [hby]; omega) (by unfold maxLen; omega) (Nat.le_refl _)
  obtain ⟨_, ⟨e0, _⟩ | ⟨g, c, cur, hv, hbg, hh, _, _, hcs, htk⟩⟩ := hown
  · simp at e0
  have hv' : w.heap.size = g ∧ len = c := by simpa using hv
  obtain ⟨hv1, hv2⟩ := hv'
  subst hv1
  subst hv2
  refine ⟨w1, hrun, ⟨List.replicate len 0, by simp, fun j hj => ?_⟩, (Below.refl _ _).grown hg (Nat.le_refl _) (fun k hk => by cases hk)⟩
  have hj' : j < len := by simpa using hj
  have hc : cur[j]? = some (.int .u8 0) := by
    rw [List.take_of_length_le (by simp; omega)] at htk
    rw [← Array.getElem?_toList, htk]
    simp [madeCells, Value.cells, hj', Nat.mod_one]
  refine ⟨?_, by simp [World.frozen?, hh]⟩
  simp [World.cell?, hh, hc]

theorem ByteRow.step {g len k : Nat} {w : World} (h : ByteRow g len w) (x : UInt8) : ByteRow g len (w.setCell ⟨g, k, none⟩ (.int .u8 (x.toNat : Int))) := by
  obtain ⟨l, hl, hc⟩ := h
  refine ⟨l.set k x, by simpa using hl, fun j hj => ?_⟩
  have hj' : j < l.length := by simpa using hj
  obtain ⟨h1, h2⟩ := hc j hj'
  refine ⟨?_, (World.frozen?_setCell _ _ _ _).trans h2⟩
  by_cases e : k = j
  · subst e
    rw [World.cell?_setCell_same _ _ _ h1]
    simp
  · rw [World.cell?_setCell_other _ _ _ _ (by intro h; simp only [Addr.mk.injEq] at h; omega), h1]
    simp [e]

theorem ByteRow.at {g len k : Nat} {w : World} (h : ByteRow g len w) (hk : k < len) : ∃ x : Int, w.cell? ⟨g, k, none⟩ = some (.int .u8 x) ∧ w.frozen? ⟨g, k, none⟩ = false := by
  obtain ⟨l, hl, hc⟩ := h
  exact ⟨_, hc k (by omega)⟩

theorem ByteRow.text {g len : Nat} {w : World} (h : ByteRow g len w) : ∃ S : ByteArray, S.size = len ∧ (convert 65 25 (.slice (some ⟨g, 0, none⟩) len len)).run Yba.prog w = .ok (.string S) w := by
  obtain ⟨l, hl, hc⟩ := h
  refine ⟨⟨l.toArray⟩, by show l.toArray.size = len; simpa using hl, ?_⟩
  have := run_convert_bytes_back (P := Yba.prog) w 65 25 5 ⟨g, 0, none⟩ len l Yba.underlying65 Yba.underlying5 Yba.underlying25 (fun j hj => by rw [WideShapes.add_plain, Nat.zero_add]; exact (hc j hj).1)
  rw [hl] at this
  exact this

theorem letter (i : Int) (h0 : 0 ≤ i) (h : i < 3) : ∃ x : UInt8, ∀ w, (Instr.index 9 (.string ⟨#[48, 49, 50]⟩) (.int .u8 i)).run Yba.prog w = .ok (.int .u8 (x.toNat : Int)) w := by
  refine ⟨(⟨#[48, 49, 50]⟩ : ByteArray)[i.toNat]'(by show i.toNat < 3; omega), fun w => ?_⟩
  rw [run_index_string (h := Yba.underlying9), dif_pos ⟨h0, by show i < 3; exact h⟩]

/-- Bytes, as the walk is told of them. -/
def Bytes (cs : List Value) : Prop := ∀ v ∈ cs, ∃ n : Int, v = .int .u8 n ∧ 0 ≤ n ∧ n ≤ 255

set_option maxHeartbeats 1000000 in
theorem build_any (a : Option Addr) (len cap : Nat) (cs : List Value) (w : World) (h : Lies w a len cs) (hm : len ≤ 1024) (o : Bytes cs) :
    Calls Yba.prog 11 #[.slice a len cap] w fun e w' => ∃ S : ByteArray, e = .returned (.string S) ∧ S.size = len ∧ Below w.heap.size w w' := by
  obtain ⟨w1, r1, f1, b1⟩ := byteRow_made w hm
  have F1 : Hid (ByteRow w.heap.size len w1) := f1
  have H0 : Hid (Lies w a len cs) := h
  have O0 : Hid (Bytes cs) := o
  clear f1 h o
  go_enter Yba.func11, Yba.ntmps11
  go_wp2_with fail
  go_loopw [11] (fun i wr => ∃ k : Nat, k ≤ len ∧ i = .int .i64 k ∧ ByteRow w.heap.size len wr ∧ Below w.heap.size w wr) (fun i _ => len - (intOf i).toNat)
  case atStart => exact ⟨0, Nat.zero_le _, rfl, F1.out, b1⟩
  case round =>
    obtain ⟨k, hk, rfl, hF, hB⟩ := hrel
    have HF : Hid (ByteRow w.heap.size len wr) := hF
    clear hF
    by_cases hlt : k < len
    · obtain ⟨hl1, _, b, off, hly⟩ := H0.out
      have hkc : k < cs.length := by omega
      obtain ⟨hy, hcy⟩ := hly k hkc
      obtain ⟨n, hs, hn0, hn1⟩ := O0.out cs[k] (List.getElem_mem hkc)
      obtain ⟨i5, hi5, _, hs5, _⟩ := info_parts info5
      have hix : ∀ wz, (Instr.indexAt 65 (.slice a len cap) (.int .i64 k)).run Yba.prog wz = .ok (.pointer (some ⟨b, off + k, none⟩)) wz := idx_of Yba.underlying65 hi5 hs5 hy len cap k hlt
      have hld : wr.cell? ⟨b, off + k, none⟩ = some (.int .u8 n) := by
        rw [← hs]
        exact (hB.cell (p := ⟨b, off + k, none⟩) (World.block_lt_of_cell? w _ hcy)).trans hcy
      obtain ⟨x, hx⟩ := letter (n % 3) (by omega) (by omega)
      obtain ⟨u, hcu, hfu⟩ := HF.out.at hlt
      clear hy hcy hs hly hl1 hkc hi5 hs5
      go_wp2_with fail
      go_roundw
      case rel => exact ⟨k + 1, by omega, by go_num, HF.out.step x, hB.setCell (Nat.le_refl _) _⟩
      case measure => simp [intOf]; omega
    · obtain ⟨S, hS, hcv⟩ := HF.out.text
      have HS : Hid (S.size = len) := hS
      clear hS
      go_wp2_with fail
      go_ret
      exact ⟨S, rfl, HS.out, hB⟩

theorem Lies.later {w w' : World} {a : Option Addr} {len : Nat} {cs : List Value} (h : Lies w a len cs) (hb : Below w.heap.size w w') : Lies w' a len cs := by
  obtain ⟨h1, h2, b, off, hc⟩ := h
  exact ⟨h1, h2, b, off, fun k hk => ⟨(hc k hk).1, (hb.cell (p := ⟨b, off + k, none⟩) (World.block_lt_of_cell? w _ (hc k hk).2)).trans (hc k hk).2⟩⟩

set_option maxHeartbeats 1000000 in
theorem cmodel_walk (a0 : Option Addr) (len0 cap0 : Nat) (cs0 : List Value) (a1 : Option Addr) (len1 cap1 : Nat) (cs1 : List Value) (w : World) (h0 : Lies w a0 len0 cs0) (h1 : Lies w a1 len1 cs1) (o0 : Bytes cs0) (o1 : Bytes cs1) :
    Calls Yba.prog 7 #[.slice a0 len0 cap0, .slice a1 len1 cap1] w fun e w' => e = .returned (.bool true) ∧ Below w.heap.size w w' := by
  by_cases hx : 1024 < len0
  · have d0 : decide ((1024 : Int) < (len0 : Int)) = true := decide_eq_true (by omega)
    clear h0 h1 o0 o1
    go_enter Yba.func7, Yba.ntmps7
    go_wp2_with fail
    go_ret
    exact ⟨rfl, Below.refl _ _⟩
  have d0 : decide ((1024 : Int) < (len0 : Int)) = false := decide_eq_false (by omega)
  by_cases hy : 1024 < len1
  · have d1 : decide ((1024 : Int) < (len1 : Int)) = true := decide_eq_true (by omega)
    clear h0 h1 o0 o1
    go_enter Yba.func7, Yba.ntmps7
    go_wp2_with fail
    go_ret
    exact ⟨rfl, Below.refl _ _⟩
  have d1 : decide ((1024 : Int) < (len1 : Int)) = false := decide_eq_false (by omega)
  have H0 : Hid (Lies w a0 len0 cs0) := h0
  have H1 : Hid (Lies w a1 len1 cs1) := h1
  have O0 : Hid (Bytes cs0) := o0
  have O1 : Hid (Bytes cs1) := o1
  have hx' : len0 ≤ 1024 := by omega
  have hy' : len1 ≤ 1024 := by omega
  clear h0 h1 o0 o1 hx hy
  go_enter Yba.func7, Yba.ntmps7
  go_wp2_with fail
  refine (build_any a0 len0 cap0 cs0 w H0.out hx' O0.out).mono ?_
  rintro e w1 ⟨S0, rfl, hS0, hb0⟩
  have HS0 : Hid (S0.size = len0) := hS0
  clear hS0
  go_wp2_with fail
  refine (build_any a1 len1 cap1 cs1 w1 (H1.out.later hb0) hy' O1.out).mono ?_
  rintro e w2 ⟨S1, rfl, hS1, hb1⟩
  have HS1 : Hid (S1.size = len1) := hS1
  clear hS1
  go_wp2_with fail
  refine (distance_any S0 S1 _ (by rw [HS0.out]; omega) (by rw [HS1.out]; omega)).mono ?_
  rintro e w3 ⟨rfl, n, rfl⟩
  go_wp2_with fail
  refine (model_any S0 S1 _ (by rw [HS0.out]; omega) (by rw [HS1.out]; omega)).mono ?_
  rintro e w3 ⟨rfl, m, rfl⟩
  go_wp2_with fail
  go_ret
  exact ⟨by simp, below_drewN (hb0.trans (hb1.mono hb0.size)) _⟩
end Go.Proofs.Ybulkafi
