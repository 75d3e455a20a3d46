/-
  OUR OWN: 'blockersAhead$1' (function 24): the look at the first n waiting requests, 'yield' being the law's own closure (function 15).
-/
import Derived.Test.YbulkajcDoorScene
import Derived.LoopTactic
import Derived.Deep.RegionHeld3
namespace Go.Proofs.YbulkajcDoor
open Go.RowKit

/-- What 'got' holds: block G, one slice, which owns the pointers xs in rows from B on. -/
def Got (w : World) (G B : Nat) (xs : List Value) : Prop := ∃ gv, w.heap[G]? = some (.cells #[gv] 84 (0, 0)) ∧ w.ownsRow B 82 1 gv xs.length xs

theorem yield_got {w wr : World} {N wsB : Nat} {lb tb : Nat → Nat} {lm lk : Nat → Int} {wd : Nat → Bool} {tab : Bool} {rb rt : Nat} {rm rk h : Int} (_S : Scene w N wsB lb tb lm lk wd tab rb rt rm rk h)
    {G Lb L k : Nat} (hG : w.heap[G]? = some (.cells #[.slice none 0 0] 84 (0, 0))) (hL : w.cell? ⟨Lb, 0, none⟩ = some (.int .i64 L)) (hK : Keeps G w.heap.size w wr) (hgot : Got wr G w.heap.size (hits (hit tb lm lk wd tab rt rm rk h) lb k))
    (hlen : (hits (hit tb lm lk wd tab rt rm rk h) lb k).length < L) (hy : hit tb lm lk wd tab rt rm rk h k = true) (hkN : k < N) (hN : N ≤ 1024) (m : Nat) :
    Calls Ybad.prog 15 #[.pointer (some ⟨lb k, 0, none⟩), .pointer (some ⟨G, 0, none⟩), .pointer (some ⟨Lb, 0, none⟩)] (wr.drewN m) fun e w' =>
      e = .returned (.bool (decide ((hits (hit tb lm lk wd tab rt rm rk h) lb (k + 1)).length < L))) ∧ Got w' G w.heap.size (hits (hit tb lm lk wd tab rt rm rk h) lb (k + 1)) ∧ Keeps G w.heap.size w w' := by
  obtain ⟨gv, hgv, hown⟩ := hgot
  have hle := hits_le (hit tb lm lk wd tab rt rm rk h) lb k
  have hLb : Lb < w.heap.size := World.block_lt_of_cell? w _ hL
  have hne : Lb ≠ G := by
    rintro rfl
    rw [cell_of_one hG] at hL
    simp at hL
  have hL' : wr.cell? ⟨Lb, 0, none⟩ = some (.int .i64 L) := keeps_cell hK hG hL (by simp)
  refine (yield_any G Lb w.heap.size (hits (hit tb lm lk wd tab rt rm rk h) lb k).length L ⟨lb k, 0, none⟩ gv (hits (hit tb lm lk wd tab rt rm rk h) lb k) (wr.drewN m) hgv hL' hne hLb hown (lt_of_block hG) hK.size (by omega)).mono ?_
  rintro e w' ⟨rfl, gv', hg', ho', hk'⟩
  have el : (hits (hit tb lm lk wd tab rt rm rk h) lb (k + 1)).length = (hits (hit tb lm lk wd tab rt rm rk h) lb k).length + 1 := by rw [hits_yes hy]; simp
  refine ⟨ret_bool ?_, ⟨gv', hg', by rw [el, hits_yes hy]; exact ho'⟩, hK.trans ((Keeps.of_below (below_drewN (Below.refl _ _) _)).trans hk')⟩
  rw [el]
  simp only [decide_eq_decide]
  omega

set_option maxHeartbeats 2000000 in
theorem ahead_any (w : World) (N wsB : Nat) (lb tb : Nat → Nat) (lm lk : Nat → Int) (wd : Nat → Bool) (tab : Bool) (rb rt : Nat) (rm rk h : Int) (S : Scene w N wsB lb tb lm lk wd tab rb rt rm rk h)
    (A Qb Rb Q G Lb n L : Nat) (hA : w.cell? ⟨A, 0, none⟩ = some (.int .i64 n)) (hQb : w.cell? ⟨Qb, 0, none⟩ = some (.pointer (some ⟨Q, 0, none⟩))) (hRb : w.cell? ⟨Rb, 0, none⟩ = some (.pointer (some ⟨rb, 0, none⟩)))
    (hQ : w.cell? ⟨Q, 1, none⟩ = some (.slice (some ⟨wsB, 0, none⟩) N N)) (hn : n ≤ N) (hN : N ≤ 1024) (hG : w.heap[G]? = some (.cells #[.slice none 0 0] 84 (0, 0))) (hL : w.cell? ⟨Lb, 0, none⟩ = some (.int .i64 L)) (hL0 : 0 < L) :
    Calls Ybad.prog 24 #[.func (.func 15) #[] #[.pointer (some ⟨G, 0, none⟩), .pointer (some ⟨Lb, 0, none⟩)], .pointer (some ⟨A, 0, none⟩), .pointer (some ⟨Qb, 0, none⟩), .pointer (some ⟨Rb, 0, none⟩)] w fun e w' =>
      e = .returned (.tuple #[]) ∧ Got w' G w.heap.size ((hits (hit tb lm lk wd tab rt rm rk h) lb n).take L) ∧ Keeps G w.heap.size w w' := by
  have HS : Hid (Scene w N wsB lb tb lm lk wd tab rb rt rm rk h) := S
  have HG : Hid (w.heap[G]? = some (.cells #[.slice none 0 0] 84 (0, 0))) := hG
  have HA : Hid (w.cell? ⟨A, 0, none⟩ = some (.int .i64 n)) := hA
  have HL : Hid (w.cell? ⟨Lb, 0, none⟩ = some (.int .i64 L)) := hL
  have HRb : Hid (w.cell? ⟨Rb, 0, none⟩ = some (.pointer (some ⟨rb, 0, none⟩))) := hRb
  clear S hG
  by_cases hn0 : n = 0
  · subst hn0
    go_enter Ybad.func24, Ybad.ntmps24
    go_wp2_with fail
    refine bodyPost_ret (results_none rfl _ _ _) rfl ?_
    exact ⟨rfl, ⟨_, HG.out, by rw [hits_zero, List.take_nil]; exact World.ownsRow_nil _ _ _ _⟩, Keeps.refl _ _ _⟩
  · have hn1 : ((n : Int) == 0) = false := beq_eq_false_iff_ne.2 (by omega)
    have hup := upgrades_no (.pointer (some ⟨Q, 0, none⟩)) rb rt tab false rm rk h w HS.out.r HS.out.rup
    have HU : Hid (Calls Ybad.prog 25 #[.pointer (some ⟨Q, 0, none⟩), .pointer (some ⟨rb, 0, none⟩)] w fun e w' => e = .returned (.bool false) ∧ Below w.heap.size w w') := hup
    have lc : ∀ {w' : World}, Below w.heap.size w w' → ∀ {x o v}, w.cell? ⟨x, o, none⟩ = some v → w'.cell? ⟨x, o, none⟩ = some v := fun {w'} hb {x o v} hv => (hb.cell (p := ⟨x, o, none⟩) (World.block_lt_of_cell? w _ hv)).trans hv
    clear hup
    go_enter Ybad.func24, Ybad.ntmps24
    go_wp2_with (go_at_call 25; refine HU.out.mono ?_; rintro e w1 ⟨rfl, hb1⟩; have cA := lc hb1 hA; have cQb := lc hb1 hQb; have cQ := lc hb1 hQ; clear hA hQb hQ hRb hL)
    clear lc
    have q1 : (n : Int) ≤ (N : Int) := by omega
    have q2 : (n : Int) ≤ 1024 := by omega
    go_quiet (fail)
    go_wp2_with fail
    have K1 : Hid (Keeps G w.heap.size w w1) := Keeps.of_below hb1
    have G1 : Hid (Got w1 G w.heap.size (hits (hit tb lm lk wd tab rt rm rk h) lb 0)) := ⟨_, (hb1.block G (lt_of_block HG.out)).trans HG.out, by rw [hits_zero]; exact World.ownsRow_nil _ _ _ _⟩
    clear cA cQb cQ hb1
    go_loopw [20] (fun i wr => ∃ k : Nat, k ≤ n ∧ i = .int .i64 k ∧ Got wr G w.heap.size (hits (hit tb lm lk wd tab rt rm rk h) lb k) ∧ (hits (hit tb lm lk wd tab rt rm rk h) lb k).length < L ∧ Keeps G w.heap.size w wr) (fun i _ => n - (intOf i).toNat)
    case atStart => exact ⟨0, Nat.zero_le _, rfl, G1.out, by rw [hits_zero]; exact hL0, K1.out.trans (Keeps.of_below (below_drewN (Below.refl _ _) _))⟩
    case round =>
      obtain ⟨k, hk, rfl, hgot, hlen, hkeep⟩ := hrel
      have HGot : Hid (Got wr G w.heap.size (hits (hit tb lm lk wd tab rt rm rk h) lb k)) := hgot
      have HLen : Hid ((hits (hit tb lm lk wd tab rt rm rk h) lb k).length < L) := hlen
      have HK : Hid (Keeps G w.heap.size w wr) := hkeep
      clear hgot hlen hkeep
      by_cases hlt : k < n
      · have S' := HS.out.keeps HK.out HG.out
        have cws := S'.ws k (by omega)
        have cR := keeps_cell HK.out HG.out HRb.out (by simp)
        have cT := (S'.lock k (by omega)).trx
        have cH := (S'.trx k (by omega)).high
        cases hwd : wd k with
        | true =>
          have W26 : Hid (∀ m, Calls Ybad.prog 26 #[.pointer (some ⟨lb k, 0, none⟩)] (wr.drewN m) fun e w' => e = .returned (.bool true) ∧ w' = wr.drewN m) := fun m => by
            have := (S'.drewN m).withdrawn k (by omega)
            rwa [hwd] at this
          have HN : Hid (hit tb lm lk wd tab rt rm rk h k = false) := by show hit tb lm lk wd tab rt rm rk h k = false; simp [hit, hwd]
          clear S' hwd
          go_wp2_with fail
          go_quiet ((go_at_call 26; exact Calls.quiet_of_same (W26.out _)))
          go_wp2
          go_roundw
          case rel => exact ⟨k + 1, by omega, by go_num, by rw [hits_no HN.out]; exact HGot.out, by rw [hits_no HN.out]; exact HLen.out, HK.out.trans (Keeps.of_below (below_drewN (Below.refl _ _) _))⟩
          case measure => simp [intOf]; omega
        | false =>
          have W26 : Hid (∀ m, Calls Ybad.prog 26 #[.pointer (some ⟨lb k, 0, none⟩)] (wr.drewN m) fun e w' => e = .returned (.bool false) ∧ w' = wr.drewN m) := fun m => by
            have := (S'.drewN m).withdrawn k (by omega)
            rwa [hwd] at this
          cases hv : ((tb k != rt) && Plain.waits tab rm rk (lm k) (lk k) h) with
          | false =>
            have W27 : Hid (∀ m, Calls Ybad.prog 27 #[.pointer (some ⟨rb, 0, none⟩), .pointer (some ⟨lb k, 0, none⟩), .bool false, .bool false] (wr.drewN m) fun e w' => e = .returned (.bool false) ∧ ∃ j, w' = (wr.drewN m).drewN j) := fun m => by
              have := (S'.drewN m).ahead k (by omega)
              rwa [hv] at this
            have HN : Hid (hit tb lm lk wd tab rt rm rk h k = false) := by show hit tb lm lk wd tab rt rm rk h k = false; rw [hit, hwd, hv]; rfl
            clear S' hwd hv
            go_wp2_with fail
            go_quiet ((first | (go_at_call 26; exact Calls.quiet_of_same (W26.out _)) | (go_at_call 27; exact Calls.quiet_of (W27.out _))))
            go_wp2
            go_roundw
            case rel => exact ⟨k + 1, by omega, by go_num, by rw [hits_no HN.out]; exact HGot.out, by rw [hits_no HN.out]; exact HLen.out, HK.out.trans (Keeps.of_below (below_drewN (Below.refl _ _) _))⟩
            case measure => simp [intOf]; omega
          | true =>
            have hkN : k < N := by omega
            have hk1024 : k ≤ 1024 := by omega
            have V26 : Hid (∀ wz, (∃ m, wz = wr.drewN m) → Calls Ybad.prog 26 #[.pointer (some ⟨lb k, 0, none⟩)] wz fun e w' => e = .returned (.bool false) ∧ wz = w') := fun wz ⟨m, hm⟩ => by
              subst hm
              exact (W26.out m).mono fun _ _ ⟨h1, h2⟩ => ⟨h1, h2.symm⟩
            have V27 : Hid (∀ wz, (∃ m, wz = wr.drewN m) → Calls Ybad.prog 27 #[.pointer (some ⟨rb, 0, none⟩), .pointer (some ⟨lb k, 0, none⟩), .bool false, .bool false] wz fun e w' => e = .returned (.bool true) ∧ ∃ j, w' = wr.drewN j) := fun wz ⟨m, hm⟩ => by
              subst hm
              have := (S'.drewN m).ahead k hkN
              rw [hv] at this
              exact this.mono fun _ _ ⟨h1, j, h2⟩ => ⟨h1, m + j, by rw [h2, World.drewN_drewN]⟩
            have HY : Hid (hit tb lm lk wd tab rt rm rk h k = true) := by show hit tb lm lk wd tab rt rm rk h k = true; rw [hit, hwd, hv]; rfl
            have V15 : Hid (∀ wz, (∃ m, wz = wr.drewN m) → Calls Ybad.prog 15 #[.pointer (some ⟨lb k, 0, none⟩), .pointer (some ⟨G, 0, none⟩), .pointer (some ⟨Lb, 0, none⟩)] wz fun e w' =>
                e = .returned (.bool (decide ((hits (hit tb lm lk wd tab rt rm rk h) lb (k + 1)).length < L))) ∧ Got w' G w.heap.size (hits (hit tb lm lk wd tab rt rm rk h) lb (k + 1)) ∧ Keeps G w.heap.size w w') := fun wz ⟨m, hm⟩ => by
              subst hm
              exact yield_got HS.out HG.out HL.out HK.out HGot.out HLen.out HY.out hkN hN m
            have lz : Hid (∀ {w' : World}, Keeps G w.heap.size w w' → w'.cell? ⟨Rb, 0, none⟩ = some (.pointer (some ⟨rb, 0, none⟩)) ∧ w'.cell? ⟨lb k, 0, none⟩ = some (.pointer (some ⟨tb k, 0, none⟩)) ∧ w'.cell? ⟨tb k, 7, none⟩ = some (.bool false)) := fun {w'} hk' =>
              ⟨keeps_cell hk' HG.out HRb.out (by simp), ((HS.out.keeps hk' HG.out).lock k hkN).trx, ((HS.out.keeps hk' HG.out).trx k hkN).high⟩
            clear S' hwd hv W26
            go_wp2_with fail
            by_cases hmore : (hits (hit tb lm lk wd tab rt rm rk h) lb (k + 1)).length < L
            · have hmb : decide ((hits (hit tb lm lk wd tab rt rm rk h) lb (k + 1)).length < L) = true := decide_eq_true hmore
              rw [hmb] at V15
              go_region_held3 (fun w' => w'.cell? ⟨Rb, 0, none⟩ = some (.pointer (some ⟨rb, 0, none⟩)) ∧ w'.cell? ⟨lb k, 0, none⟩ = some (.pointer (some ⟨tb k, 0, none⟩)) ∧ w'.cell? ⟨tb k, 7, none⟩ = some (.bool false)) (simp [*])
                (first
                  | (go_at_call 26; refine (V26.out _ (by first | exact ⟨1, rfl⟩ | exact ⟨_, rfl⟩)).mono ?_; rintro e w2 ⟨rfl, rfl⟩)
                  | (go_at_call 27; refine (V27.out _ (by first | exact ⟨1, rfl⟩ | exact ⟨_, rfl⟩)).mono ?_; rintro e w2 ⟨rfl, j2, rfl⟩)
                  | (go_at_call 15; refine (V15.out _ (by first | exact ⟨1, rfl⟩ | exact ⟨_, rfl⟩)).mono ?_; rintro e w2 ⟨rfl, g2, k2⟩; obtain ⟨z1, z2, z3⟩ := lz.out k2))
              go_wp2
              go_roundw
              case rel => exact ⟨k + 1, by omega, by go_num, g2, hmore, k2⟩
              case measure => simp [intOf]; omega
            · have hmb : decide ((hits (hit tb lm lk wd tab rt rm rk h) lb (k + 1)).length < L) = false := decide_eq_false hmore
              rw [hmb] at V15
              go_region_held3 (fun w' => w'.cell? ⟨Rb, 0, none⟩ = some (.pointer (some ⟨rb, 0, none⟩)) ∧ w'.cell? ⟨lb k, 0, none⟩ = some (.pointer (some ⟨tb k, 0, none⟩)) ∧ w'.cell? ⟨tb k, 7, none⟩ = some (.bool false)) (simp [*])
                (first
                  | (go_at_call 26; refine (V26.out _ (by first | exact ⟨1, rfl⟩ | exact ⟨_, rfl⟩)).mono ?_; rintro e w2 ⟨rfl, rfl⟩)
                  | (go_at_call 27; refine (V27.out _ (by first | exact ⟨1, rfl⟩ | exact ⟨_, rfl⟩)).mono ?_; rintro e w2 ⟨rfl, j2, rfl⟩)
                  | (go_at_call 15; refine (V15.out _ (by first | exact ⟨1, rfl⟩ | exact ⟨_, rfl⟩)).mono ?_; rintro e w2 ⟨rfl, g2, k2⟩; obtain ⟨z1, z2, z3⟩ := lz.out k2))
              go_wp2
              refine bodyPost_ret (results_none rfl _ _ _) rfl ?_
              have hlen1 : (hits (hit tb lm lk wd tab rt rm rk h) lb (k + 1)).length = L := by
                have e1 : (hits (hit tb lm lk wd tab rt rm rk h) lb (k + 1)).length = (hits (hit tb lm lk wd tab rt rm rk h) lb k).length + 1 := by rw [hits_yes HY.out]; simp
                have := HLen.out
                omega
              refine ⟨rfl, ?_, k2⟩
              rw [hits_take (show k + 1 ≤ n by omega) (by omega), List.take_of_length_le (by omega)]
              exact g2
      · obtain rfl : k = n := by omega
        go_wp2_with fail
        go_end0
        exact ⟨rfl, by rw [List.take_of_length_le (Nat.le_of_lt HLen.out)]; exact HGot.out, HK.out⟩
end Go.Proofs.YbulkajcDoor
