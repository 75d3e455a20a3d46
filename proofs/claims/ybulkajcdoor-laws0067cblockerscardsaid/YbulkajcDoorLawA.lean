/-
  OUR OWN: THE WALK OF 'LawS0067CBlockers' (function 5), its head.
-/
import Derived.Test.YbulkajcDoorTail
import Derived.Deep.CutRange
import Derived.Deep.CutBlock
namespace Go.Proofs.YbulkajcDoor
open Go.RowKit

theorem wpList_build_of {P : Program} {w : World} {ops : Array Oper} {rest : List Oper} {o : Oper} {a : Act} {Q : Exit → Act → World → Prop} (hg : o.guard = none) (t : TypeId) (ho : o.op = .build t #[]) (Z : Value) (hr : ∀ w, (Instr.build t #[]).run P w = .ok Z w)
    (h : wpList P ops Q rest (a.put o.dst Z) w) : wpList P ops Q (o :: rest) a w := by
  refine wpList_plain hg fun K hK => ?_
  unfold Oper.wp execOp
  simp only [ho, List.map_toArray, List.map_nil, Sem.run_bind, hr, Result.andThen_ok]
  exact hK _ _ h

/-- The zero Trx: of its cells only 'high' is looked at. -/
theorem trx_zero : ∃ C : Array Value, (∀ w, (Instr.build 110 #[]).run Ybad.prog w = .ok (.agg C) w) ∧ C[7]? = some (.bool false) :=
  ⟨(((Ybad.prog.info? 110).bind (·.zero)).getD undef).cells, fun _ => by kernel_rfl, by kernel_rfl⟩

/-- The kind and the mode of the i-th waiting request, out of the i-th item. -/
def lkOf (tab : Bool) (ik : Int) : Int := if tab then 0 else ik % 4
def lmOf (tab : Bool) (im ik : Int) : Int := if tab then im % 5 else if im % 2 = 1 ∨ ik % 4 = 3 then 3 else 2

/-- What the walk is told of the items. -/
structure ItemsAt (w : World) (a : Option Addr) (N : Nat) (ix im ik : Nat → Int) (iw : Nat → Bool) (b off : Nat) : Prop where
  addr : ∀ i, i < N → a = some ⟨b, off, none⟩
  c0 : ∀ i, i < N → w.cell? ⟨b, off + i * 4, none⟩ = some (.int .u8 (ix i))
  c1 : ∀ i, i < N → w.cell? ⟨b, off + i * 4 + 1, none⟩ = some (.int .u8 (im i))
  c2 : ∀ i, i < N → w.cell? ⟨b, off + i * 4 + 2, none⟩ = some (.int .u8 (ik i))
  c3 : ∀ i, i < N → w.cell? ⟨b, off + i * 4 + 3, none⟩ = some (.bool (iw i))
  xlo : ∀ i, i < N → 0 ≤ ix i
  xhi : ∀ i, i < N → ix i ≤ 255
  mlo : ∀ i, i < N → 0 ≤ im i
  mhi : ∀ i, i < N → im i ≤ 255
  klo : ∀ i, i < N → 0 ≤ ik i
  khi : ∀ i, i < N → ik i ≤ 255

theorem ItemsAt.later {w w' : World} {a : Option Addr} {N : Nat} {ix im ik : Nat → Int} {iw : Nat → Bool} {b off : Nat} (I : ItemsAt w a N ix im ik iw b off) (hb : Below w.heap.size w w') : ItemsAt w' a N ix im ik iw b off := by
  have hc : ∀ {x o v}, w.cell? ⟨x, o, none⟩ = some v → w'.cell? ⟨x, o, none⟩ = some v := fun {x o v} hv => (hb.cell (p := ⟨x, o, none⟩) (World.block_lt_of_cell? w _ hv)).trans hv
  exact ⟨I.addr, fun i hi => hc (I.c0 i hi), fun i hi => hc (I.c1 i hi), fun i hi => hc (I.c2 i hi), fun i hi => hc (I.c3 i hi), I.xlo, I.xhi, I.mlo, I.mhi, I.klo, I.khi⟩

theorem info134 : (Ybad.prog.info? 134).map (fun i => i.size) = some 4 := by kernel_rfl
theorem idx130 {ao : Option Addr} {b off : Nat} (h : ao = some ⟨b, off, none⟩) (n c k : Nat) (hk : k < n) (w : World) :
    (Instr.indexAt 130 (.slice ao n c) (.int .i64 k)).run Ybad.prog w = .ok (.pointer (some ⟨b, off + k * 4, none⟩)) w := by
  subst h
  obtain ⟨i, hi, hs⟩ := Option.map_eq_some_iff.1 info134
  have h2 : Ybad.prog.underlying 130 = some (.slice (Ybad.prog.elem 130)) := by simp [Program.elem, Ybad.underlying130]
  have h3 : Ybad.prog.elem 130 = 134 := by simp [Program.elem, Ybad.underlying130]
  rw [run_indexAt_slice (h := h2), if_pos ⟨by omega, by omega⟩, h3]
  simp [sizeOf, typeInfo, hi, hs, Addr.add]

theorem al_of {w' : World} {x o : Nat} {v : Value} (h : w'.cell? ⟨x, o, none⟩ = some v) (ob : Obj) : (w'.alloc ob).cell? ⟨x, o, none⟩ = some v :=
  (((Below.refl _ _).alloc (Nat.le_refl _) ob).cell (p := ⟨x, o, none⟩) (World.block_lt_of_cell? w' _ h)).trans h
theorem arr_at {w : World} {B : Nat} {tab : Bool} {rm rk h : Int} (b : Base w B tab rm rk h) (x : Int) : w.cell? ⟨B + 1 + 1 + 1, (x % 3).toNat, none⟩ = some (.pointer (some ⟨B + (x % 3).toNat, 0, none⟩)) := by
  rcases (show (x % 3).toNat = 0 ∨ (x % 3).toNat = 1 ∨ (x % 3).toNat = 2 by omega) with e | e | e <;> rw [e]
  · exact b.a0
  · exact b.a1
  · exact b.a2

theorem lk_ok (tab : Bool) (z : Int) : lkOf tab z ≤ 3 := by unfold lkOf; split <;> omega
theorem lm_ok (tab : Bool) (y z : Int) : 0 ≤ lmOf tab y z ∧ lmOf tab y z < 5 ∧ (tab = false → lmOf tab y z = 2 ∨ lmOf tab y z = 3) := by
  unfold lmOf
  cases tab with
  | true => simp only [if_true]; exact ⟨by omega, by omega, by simp⟩
  | false =>
    simp only [Bool.false_eq_true, if_false]
    split
    · exact ⟨by omega, by omega, fun _ => .inr rfl⟩
    · exact ⟨by omega, by omega, fun _ => .inl rfl⟩

theorem lock_plain (wr : World) (o1 : Obj) (tab : Bool) (M K h : Int) (t : Nat) :
    Below wr.heap.size wr ((wr.alloc o1).alloc (.cells #[.pointer (some ⟨t, 0, none⟩), .int .u64 0, .int .u32 0, .int .u32 0, .int .u16 h, .bool tab, .int .u8 M, .int .u8 K, .bool false, .pointer none, .pointer none, .int .i32 0, .int .u32 0, .int .i64 0] 100)).drew ∧
    LockAt ((wr.alloc o1).alloc (.cells #[.pointer (some ⟨t, 0, none⟩), .int .u64 0, .int .u32 0, .int .u32 0, .int .u16 h, .bool tab, .int .u8 M, .int .u8 K, .bool false, .pointer none, .pointer none, .int .i32 0, .int .u32 0, .int .i64 0] 100)).drew (wr.heap.size + 1) t tab M K h false ∧
    ∀ g, ((wr.alloc o1).alloc (.cells #[.pointer (some ⟨t, 0, none⟩), .int .u64 0, .int .u32 0, .int .u32 0, .int .u16 h, .bool tab, .int .u8 M, .int .u8 K, .bool false, .pointer none, .pointer none, .int .i32 0, .int .u32 0, .int .i64 0] 100)).drew.cell? ⟨wr.heap.size + 1, 10, none⟩ = some (.pointer (some ⟨g, 0, none⟩)) → wr.heap.size ≤ g := by
  generalize eR : Obj.cells #[.pointer (some ⟨t, 0, none⟩), .int .u64 0, .int .u32 0, .int .u32 0, .int .u16 h, .bool tab, .int .u8 M, .int .u8 K, .bool false, .pointer none, .pointer none, .int .i32 0, .int .u32 0, .int .i64 0] 100 = oR
  have n1 : ((wr.alloc o1).alloc oR).drew.heap[wr.heap.size + 1]? = some oR := by
    show ((wr.alloc o1).alloc oR).heap[wr.heap.size + 1]? = some oR
    simpa only [World.size_alloc] using heap_new (wr.alloc o1) oR
  have hb : Below wr.heap.size wr ((wr.alloc o1).alloc oR).drew := (((Below.refl _ _).alloc (Nat.le_refl _) _).alloc (by simp only [World.size_alloc]; omega) _).drew
  generalize ((wr.alloc o1).alloc oR).drew = W at n1 hb ⊢
  subst eR
  refine ⟨hb, ⟨by simp [World.cell?, n1], by simp [World.cell?, n1], by simp [World.cell?, n1], by simp [World.cell?, n1], by simp [World.cell?, n1], by simp [World.cell?, n1], by simp [World.cell?, n1], .inl ⟨rfl, by simp [World.cell?, n1]⟩⟩, fun g hg => ?_⟩
  simp [World.cell?, n1] at hg

theorem lock_gone (wr : World) (o1 : Obj) (d : Value) (tab : Bool) (M K h : Int) (t : Nat) :
    Below wr.heap.size wr (((wr.alloc o1).alloc (.cells #[.pointer (some ⟨t, 0, none⟩), .int .u64 0, .int .u32 0, .int .u32 0, .int .u16 h, .bool tab, .int .u8 M, .int .u8 K, .bool false, .pointer none, .pointer (some ⟨wr.heap.size + 1 + 1, 0, none⟩), .int .i32 0, .int .u32 0, .int .i64 0] 100)).alloc (.cells #[d, .nilIface, .int .u64 0, .bool true] 137)).drew ∧
    LockAt (((wr.alloc o1).alloc (.cells #[.pointer (some ⟨t, 0, none⟩), .int .u64 0, .int .u32 0, .int .u32 0, .int .u16 h, .bool tab, .int .u8 M, .int .u8 K, .bool false, .pointer none, .pointer (some ⟨wr.heap.size + 1 + 1, 0, none⟩), .int .i32 0, .int .u32 0, .int .i64 0] 100)).alloc (.cells #[d, .nilIface, .int .u64 0, .bool true] 137)).drew (wr.heap.size + 1) t tab M K h true ∧
    ∀ g, (((wr.alloc o1).alloc (.cells #[.pointer (some ⟨t, 0, none⟩), .int .u64 0, .int .u32 0, .int .u32 0, .int .u16 h, .bool tab, .int .u8 M, .int .u8 K, .bool false, .pointer none, .pointer (some ⟨wr.heap.size + 1 + 1, 0, none⟩), .int .i32 0, .int .u32 0, .int .i64 0] 100)).alloc (.cells #[d, .nilIface, .int .u64 0, .bool true] 137)).drew.cell? ⟨wr.heap.size + 1, 10, none⟩ = some (.pointer (some ⟨g, 0, none⟩)) → wr.heap.size ≤ g := by
  generalize eR : Obj.cells #[.pointer (some ⟨t, 0, none⟩), .int .u64 0, .int .u32 0, .int .u32 0, .int .u16 h, .bool tab, .int .u8 M, .int .u8 K, .bool false, .pointer none, .pointer (some ⟨wr.heap.size + 1 + 1, 0, none⟩), .int .i32 0, .int .u32 0, .int .i64 0] 100 = oR
  generalize eE : Obj.cells #[d, .nilIface, .int .u64 0, .bool true] 137 = oE
  have n1 : (((wr.alloc o1).alloc oR).alloc oE).drew.heap[wr.heap.size + 1]? = some oR := by
    show (((wr.alloc o1).alloc oR).alloc oE).heap[wr.heap.size + 1]? = some oR
    rw [Below.heap_alloc _ _ _ (by simp only [World.size_alloc]; omega)]
    simpa only [World.size_alloc] using heap_new (wr.alloc o1) oR
  have n2 : (((wr.alloc o1).alloc oR).alloc oE).drew.heap[wr.heap.size + 1 + 1]? = some oE := by
    show (((wr.alloc o1).alloc oR).alloc oE).heap[wr.heap.size + 1 + 1]? = some oE
    simpa only [World.size_alloc] using heap_new ((wr.alloc o1).alloc oR) oE
  have hb : Below wr.heap.size wr (((wr.alloc o1).alloc oR).alloc oE).drew := ((((Below.refl _ _).alloc (Nat.le_refl _) _).alloc (by simp only [World.size_alloc]; omega) _).alloc (by simp only [World.size_alloc]; omega) _).drew
  generalize (((wr.alloc o1).alloc oR).alloc oE).drew = W at n1 n2 hb ⊢
  subst eR eE
  refine ⟨hb, ⟨by simp [World.cell?, n1], by simp [World.cell?, n1], by simp [World.cell?, n1], by simp [World.cell?, n1], by simp [World.cell?, n1], by simp [World.cell?, n1], by simp [World.cell?, n1], .inr ⟨rfl, wr.heap.size + 1 + 1, by simp [World.cell?, n1], by simp [World.cell?, n2]⟩⟩, fun g hg => ?_⟩
  simp [World.cell?, n1] at hg
  omega

set_option maxRecDepth 100000 in
set_option maxHeartbeats 4000000 in
theorem law_any (tab : Bool) (p h : Int) (a : Option Addr) (N cap : Nat) (ah st : Int) (w : World) (hN : N ≤ 1024) (hp0 : 0 ≤ p) (hp1 : p ≤ 255) (ha0 : 0 ≤ ah) (ha1 : ah ≤ 65535) (hs0 : 0 ≤ st) (hs1 : st ≤ 255) (hT : Table w) (h4 : 4 < w.heap.size)
    (ix im ik : Nat → Int) (iw : Nat → Bool) (ib ioff : Nat) (I : ItemsAt w a N ix im ik iw ib ioff) :
    Calls Ybad.prog 5 #[.bool tab, .int .u8 p, .int .u16 h, .slice a N cap, .int .u16 ah, .int .u8 st] w fun e w' => e = .returned (.bool true) ∧ Below w.heap.size w w' := by
  have d0 : (N : Int) ≤ 1024 := by omega
  have HI : Hid (ItemsAt w a N ix im ik iw ib ioff) := I
  have HT : Hid (Table w) := hT
  clear I hT
  obtain ⟨C, bu, h7⟩ := trx_zero
  have H7 : Hid (C[7]? = some (.bool false)) := h7
  clear h7
  go_enter Ybad.func5, Ybad.ntmps5
  go_upto_if 49 with (with_reducible refine wpList_build_of rfl 110 rfl (.agg C) bu ?_)
  clear bu
  go_cut [15, 16] from 49 to 59 (fun x y wx => ∃ rm rk : Int, x = .int .u8 rm ∧ y = .int .u8 rk ∧ 0 ≤ rm ∧ rm < 5 ∧ (tab = false → rm = 2 ∨ rm = 3) ∧ (tab = false → rm = 3 → rk = 3) ∧ Ready w wx tab h)
  case first =>
    cases tab with
    | true =>
      go_wp2_with fail
      go_meet
      case rel => exact ⟨p % 5, 0, rfl, rfl, by omega, by omega, by simp, by simp, ready_of w C true h H7.out HT.out⟩
    | false =>
      by_cases e0 : p % 4 = 0
      · have b0 : (p % 4 == 0) = true := beq_iff_eq.2 e0
        clear e0
        go_wp2_with fail
        go_meet
        case rel => exact ⟨2, 0, rfl, rfl, by omega, by omega, by simp, by simp, ready_of w C false h H7.out HT.out⟩
      · have b0 : (p % 4 == 0) = false := beq_eq_false_iff_ne.2 e0
        by_cases e1 : p % 4 = 1
        · have b1 : (p % 4 == 1) = true := beq_iff_eq.2 e1
          clear e0 e1
          go_wp2_with fail
          go_meet
          case rel => exact ⟨2, 1, rfl, rfl, by omega, by omega, by simp, by simp, ready_of w C false h H7.out HT.out⟩
        · have b1 : (p % 4 == 1) = false := beq_eq_false_iff_ne.2 e1
          by_cases e2 : p % 4 = 2
          · have b2 : (p % 4 == 2) = true := beq_iff_eq.2 e2
            clear e0 e1 e2
            go_wp2_with fail
            go_meet
            case rel => exact ⟨2, 2, rfl, rfl, by omega, by omega, by simp, by simp, ready_of w C false h H7.out HT.out⟩
          · have b2 : (p % 4 == 2) = false := beq_eq_false_iff_ne.2 e2
            clear e0 e1 e2
            go_wp2_with fail
            go_meet
            case rel => exact ⟨3, 3, rfl, rfl, by omega, by omega, by simp, by simp, ready_of w C false h H7.out HT.out⟩
  case rest =>
    obtain ⟨rm, rk, rfl, rfl, hr0, hr1, hr2, hr3, hR⟩ := hcut
    have R2 : Hid (tab = false → rm = 2 ∨ rm = 3) := hr2
    have R3 : Hid (tab = false → rm = 3 → rk = 3) := hr3
    obtain ⟨w3, w4, w5, m3, m4, m5, hbt⟩ := built_zero hR h4 rm rk hN (fun i => lmOf tab (im i) (ik i)) (fun i => lkOf tab (ik i)) (fun i => (ix i % 3).toNat) iw (fun _ => 0)
    have HB : Hid (Built w w5 w.heap.size N 0 tab rm rk h (fun i => lmOf tab (im i) (ik i)) (fun i => lkOf tab (ik i)) (fun i => (ix i % 3).toNat) iw (fun _ => 0)) := hbt
    have c6 := hR.base.r.mode
    have c7 := hR.base.r.kind
    have f6 := hR.free 6
    have f7 := hR.free 7
    clear hR hbt hr2 hr3
    go_wp2_with fail
    clear c6 c7 f6 f7 m3 m4 m5
    go_loopw [79] (fun i wr => ∃ (k : Nat) (lb : Nat → Nat), k ≤ N ∧ i = .int .i64 k ∧ Built w wr w.heap.size N k tab rm rk h (fun i => lmOf tab (im i) (ik i)) (fun i => lkOf tab (ik i)) (fun i => (ix i % 3).toNat) iw lb) (fun i _ => N - (intOf i).toNat)
    case atStart => exact ⟨0, _, Nat.zero_le _, rfl, HB.out⟩
    case round =>
      obtain ⟨k, lb, hk, rfl, hbt⟩ := hrel
      have HBk : Hid (Built w wr w.heap.size N k tab rm rk h (fun i => lmOf tab (im i) (ik i)) (fun i => lkOf tab (ik i)) (fun i => (ix i % 3).toNat) iw lb) := hbt
      clear hbt HB
      by_cases hlt : k < N
      · have I' := HI.out.later HBk.out.below
        have hix : ∀ wz, (Instr.indexAt 130 (.slice a N cap) (.int .i64 k)).run Ybad.prog wz = .ok (.pointer (some ⟨ib, ioff + k * 4, none⟩)) wz := idx130 (I'.addr k hlt) N cap k hlt
        have ic0 := I'.c0 k hlt
        have ic1 := I'.c1 k hlt
        have ic2 := I'.c2 k hlt
        have ic3 := I'.c3 k hlt
        have x0 := I'.xlo k hlt
        have x1 := I'.xhi k hlt
        have y0 := I'.mlo k hlt
        have y1 := I'.mhi k hlt
        have z0 := I'.klo k hlt
        have z1 := I'.khi k hlt
        clear I'
        obtain ⟨x, hx⟩ : ∃ x, x = ix k := ⟨_, rfl⟩
        obtain ⟨y, hy⟩ : ∃ y, y = im k := ⟨_, rfl⟩
        obtain ⟨z, hz⟩ : ∃ z, z = ik k := ⟨_, rfl⟩
        obtain ⟨v, hv⟩ : ∃ v, v = iw k := ⟨_, rfl⟩
        rw [← hx] at ic0 x0 x1
        rw [← hy] at ic1 y0 y1
        rw [← hz] at ic2 z0 z1
        rw [← hv] at ic3
        have HX : Hid (x = ix k) := hx
        have HY : Hid (y = im k) := hy
        have HZ : Hid (z = ik k) := hz
        have HV : Hid (v = iw k) := hv
        clear hx hy hz hv
        have hl0 := al_of (w' := wr) HBk.out.base.r.space
        have hl1 := al_of (w' := wr) HBk.out.base.r.page
        have hl2 := al_of (w' := wr) HBk.out.base.r.heap
        have hl3 := al_of (w' := wr) (arr_at HBk.out.base x)
        go_upto_if 88 with fail
        go_cut [22, 23] from 84 to 99 (fun p1 p2 wx => p1 = .int .u8 (lmOf tab y z) ∧ p2 = .int .u8 (lkOf tab z) ∧ wx = wr.alloc (.cells #[.int .u8 x, .int .u8 y, .int .u8 z, .bool v] 134))
        case first =>
          cases tab with
          | true =>
            go_wp2_with fail
            go_meet
            case rel => exact ⟨rfl, rfl, rfl⟩
          | false =>
            by_cases e1 : y % 2 = 1
            · have b1 : (y % 2 == 1) = true := beq_iff_eq.2 e1
              have HM : Hid (lmOf false y z = 3) := by show lmOf false y z = 3; simp [lmOf, e1]
              clear e1
              go_wp2_with fail
              go_meet
              case rel => exact ⟨by rw [HM.out], rfl, rfl⟩
            · have b1 : (y % 2 == 1) = false := beq_eq_false_iff_ne.2 e1
              by_cases e2 : z % 4 = 3
              · have b2 : (z % 4 == 3) = true := beq_iff_eq.2 e2
                have HM : Hid (lmOf false y z = 3) := by show lmOf false y z = 3; simp [lmOf, e2]
                clear e1 e2
                go_wp2_with fail
                go_meet
                case rel => exact ⟨by rw [HM.out], rfl, rfl⟩
              · have b2 : (z % 4 == 3) = false := beq_eq_false_iff_ne.2 e2
                have HM : Hid (lmOf false y z = 2) := by show lmOf false y z = 2; simp [lmOf, e1, e2]
                clear e1 e2
                go_wp2_with fail
                go_meet
                case rel => exact ⟨by rw [HM.out], rfl, rfl⟩
        case rest =>
          obtain ⟨rfl, rfl, rfl⟩ := hcut
          obtain ⟨M, hM⟩ : ∃ M, M = lmOf tab y z := ⟨_, rfl⟩
          obtain ⟨K, hK⟩ : ∃ K, K = lkOf tab z := ⟨_, rfl⟩
          rw [← hM, ← hK]
          have HM : Hid (M = lmOf tab y z) := hM
          have HKk : Hid (K = lkOf tab z) := hK
          clear hM hK ic0 ic1 ic2 ic3 hix
          go_upto_region 31 with fail
          go_region
          clear hl0 hl1 hl2 hl3
          go_upto_if 116 with fail
          go_cut [24] from 100 to 121 (fun l wx => l = .pointer (some ⟨wr.heap.size + 1, 0, none⟩) ∧ Below wr.heap.size wr wx ∧ LockAt wx (wr.heap.size + 1) (w.heap.size + (x % 3).toNat) tab M K h v ∧ ∀ g, wx.cell? ⟨wr.heap.size + 1, 10, none⟩ = some (.pointer (some ⟨g, 0, none⟩)) → wr.heap.size ≤ g)
          case first =>
            cases v with
            | false =>
              go_wp2_with fail
              go_meet
              case rel => exact ⟨rfl, lock_plain wr _ tab M K h (w.heap.size + (x % 3).toNat)⟩
            | true =>
              go_wp2_with fail
              go_meet
              case rel => exact ⟨rfl, lock_gone wr _ _ tab M K h (w.heap.size + (x % 3).toNat)⟩
          case rest =>
            obtain ⟨rfl, hb6, hl6, hg6⟩ := hcut
            have e1 : lmOf tab (im k) (ik k) = M := by rw [HM.out, HY.out, HZ.out]
            have e2 : lkOf tab (ik k) = K := by rw [HKk.out, HZ.out]
            have B2 : Hid (Built w (((wc.setCell ⟨w.heap.size + 5, k, none⟩ (.pointer (some ⟨wr.heap.size + 1, 0, none⟩))).setCell ⟨w.heap.size + 6, k, none⟩ (.int .u8 M)).setCell ⟨w.heap.size + 7, k, none⟩ (.int .u8 K)) w.heap.size N (k + 1) tab rm rk h (fun i => lmOf tab (im i) (ik i)) (fun i => lkOf tab (ik i)) (fun i => (ix i % 3).toNat) iw (fun i => if i = k then wr.heap.size + 1 else lb i)) := by
              rw [← e1, ← e2]
              refine HBk.out.step hlt hb6 ?_ (by omega) hg6
              show LockAt wc (wr.heap.size + 1) (w.heap.size + (ix k % 3).toNat) tab (lmOf tab (im k) (ik k)) (lkOf tab (ik k)) h (iw k)
              rw [e1, e2, ← HX.out, ← HV.out]
              exact hl6
            have s5 := HBk.out.ws.block (hb6.block _ HBk.out.ws.lt)
            have s6 := HBk.out.lms.block (hb6.block _ HBk.out.lms.lt)
            have s7 := HBk.out.lks.block (hb6.block _ HBk.out.lks.lt)
            obtain ⟨v5, c5⟩ := s5.there hlt
            obtain ⟨v6, c6⟩ := s6.there hlt
            obtain ⟨v7, c7⟩ := s7.there hlt
            have f5 := s5.free k
            have f6 := s6.free k
            have f7 := s7.free k
            clear s5 s6 s7 e1 e2 hb6 hl6 hg6 x0 x1 y0 y1 z0 z1
            go_wp2_with fail
            go_roundw
            case rel => exact ⟨k + 1, _, by omega, by go_num, B2.out⟩
            case measure => simp [intOf]; omega
      · obtain rfl : k = N := by omega
        obtain ⟨wA, hwA⟩ : ∃ wA, wA = wr := ⟨_, rfl⟩
        subst hwA
        have SC : Hid (Scene wA k (w.heap.size + 5) lb (fun i => w.heap.size + (ix i % 3).toNat) (fun i => lmOf tab (im i) (ik i)) (fun i => lkOf tab (ik i)) iw tab (w.heap.size + 1 + 1 + 1 + 1) w.heap.size rm rk h) :=
          HBk.out.scene hr0 hr1 R2.out R3.out (fun i hi => (lm_ok tab _ _).1) (fun i hi => (lm_ok tab _ _).2.1) (fun i hi => (lm_ok tab _ _).2.2) (fun i hi => lk_ok tab _)
        obtain ⟨n, hn⟩ : ∃ n : Nat, ah % ((k : Int) + 1) = (n : Int) := ⟨(ah % ((k : Int) + 1)).toNat, by have := Int.emod_nonneg ah (show ((k : Int) + 1) ≠ 0 by omega); omega⟩
        have hnN : n ≤ k := by have := Int.emod_lt_of_pos ah (show (0 : Int) < (k : Int) + 1 by omega); omega
        obtain ⟨L, hL⟩ : ∃ L : Nat, 1 + st % 12 = (L : Int) := ⟨(1 + st % 12).toNat, by omega⟩
        have hL0 : 0 < L := by omega
        have hL1 : L ≤ 12 := by omega
        go_wp2_with (first | (go_at_call 14; refine (blockers_any _ _ _ _).mono ?_; rintro e w6 ⟨rfl, rfl⟩) | (go_at_call 24; refine (ahead_at SC.out hnN hN hL0 _ rfl).mono ?_; rintro e w7 ⟨rfl, hb7, c7, g7, z7⟩))
        clear hn hL
        obtain ⟨P, hP⟩ : ∃ P, P = hit (fun i => w.heap.size + (ix i % 3).toNat) (fun i => lmOf tab (im i) (ik i)) (fun i => lkOf tab (ik i)) iw tab w.heap.size rm rk h := ⟨_, rfl⟩
        rw [← hP] at g7
        have HP : Hid (P = hit (fun i => w.heap.size + (ix i % 3).toNat) (fun i => lmOf tab (im i) (ik i)) (fun i => lkOf tab (ik i)) iw tab w.heap.size rm rk h) := hP
        have G7 : Hid (Got w7 (wA.heap.size + 1 + 1) (wA.heap.size + 6) ((hits P lb n).take L)) := g7
        have B7 : Hid (Below wA.heap.size wA w7) := hb7
        have C7 : Hid (w7.cell? ⟨wA.heap.size, 0, none⟩ = some (.int .i64 L)) := c7
        clear hP g7 hb7 c7
        have W0 : Hid (w7.ownsRow w7.heap.size 82 1 (.slice none 0 0) ((hits P lb 0).take L).length ((hits P lb 0).take L)) := by rw [hits_zero, List.take_nil]; exact World.ownsRow_nil _ _ _ _
        obtain ⟨i82, hi82, hz0, hz1, hz2⟩ := info_parts info82
        have I82 : Hid (Ybad.prog.info? 82 = some i82) := hi82
        have I0 : Hid (i82.zero = some (.pointer none)) := hz0
        have I1 : Hid (i82.size = 1) := hz1
        have I2 : Hid (i82.bytes = 8) := hz2
        clear hi82 hz0 hz1 hz2
        go_loopw [29, 30] (fun v i wq => ∃ (j : Nat) (X : List Value) (ao : Option Addr) (cp : Nat), j ≤ n ∧ i = .int .i64 j ∧ v = .slice ao X.length cp ∧ wq.ownsRow w7.heap.size 82 1 v X.length X ∧ X = (hits P lb j).take L ∧ Below w7.heap.size w7 wq) (fun _ i _ => n + 1 - (intOf i).toNat)
        case atStart => exact ⟨0, [], none, 0, Nat.zero_le _, rfl, rfl, World.ownsRow_nil _ _ _ _, by rw [hits_zero, List.take_nil], Below.refl _ _⟩
        case round =>
          obtain ⟨j, X, ao, cp, hj, rfl, rfl, hwt, hX, hbq⟩ := hrel
          have OW : Hid (wr.ownsRow w7.heap.size 82 1 (.slice ao X.length cp) X.length X) := hwt
          have HX : Hid (X = (hits P lb j).take L) := hX
          have hXl : X.length ≤ L := by rw [hX]; simp; omega
          clear hwt hX
          have cL : wr.cell? ⟨wA.heap.size, 0, none⟩ = some (.int .i64 L) := (hbq.cell (p := ⟨wA.heap.size, 0, none⟩) (World.block_lt_of_cell? w7 _ C7.out)).trans C7.out
          by_cases hlt : j < n
          · by_cases hfull : X.length = L
            · have HXn : Hid ((hits P lb n).take L = X) := by
                show (hits P lb n).take L = X
                rw [HX.out]; exact want_full (Nat.le_of_lt hlt) (by rw [← HX.out]; exact hfull)
              have fb : ((X.length : Int) == (L : Int)) = true := beq_iff_eq.2 (by omega)
              clear hfull
              obtain ⟨wE, hwE⟩ : ∃ wE, wE = wr := ⟨_, rfl⟩
              subst hwE
              have hgot := (G7.out.later hbq)
              rw [HXn.out] at hgot
              obtain ⟨gv, hG1, hGo⟩ := hgot
              obtain ⟨ga, gc, hgv⟩ := owns_slice hGo
              subst hgv
              have cG := cell_of_one hG1
              have OG : Hid (wE.ownsRow (wA.heap.size + 6) 82 1 (.slice ga X.length gc) X.length X) := hGo
              have nl : ((X.length : Int) != (X.length : Int)) = false := by simp
              have hfin : Hid (Below w.heap.size w wE) := (HBk.out.below.trans (B7.out.mono (by have := HBk.out.size; omega))).trans (hbq.mono (by have := HBk.out.size; have := B7.out.size; omega))
              clear hG1 hGo hbq
              go_wp2_with fail
              go_loopw [210] (fun i wz => ∃ (q m : Nat), q ≤ X.length ∧ i = .int .i64 q ∧ wz = wE.drewN m) (fun i _ => X.length - (intOf i).toNat)
              case atStart => exact ⟨0, 0, Nat.zero_le _, rfl, rfl⟩
              case round =>
                obtain ⟨q, m, hq, rfl, rfl⟩ := hrel
                by_cases hlt3 : q < X.length
                · obtain ⟨gg, hix1, hc1⟩ := owns_at OG.out q hlt3
                  obtain ⟨gw, hix2, hc2⟩ := owns_at OW.out q hlt3
                  obtain ⟨pa, hpa⟩ := hits_ptr (show X[q] ∈ (hits P lb j).take L by rw [← HX.out]; exact List.getElem_mem hlt3)
                  rw [hpa] at hc1 hc2
                  have n82 := ne82 pa
                  clear hpa
                  go_wp2_with fail
                  go_quiet (fail)
                  go_wp2
                  go_roundw
                  case rel => exact ⟨q + 1, _, by omega, by go_num, rfl⟩
                  case measure => simp [intOf]; omega
                · go_wp2_with fail
                  go_ret
                  exact ⟨rfl, below_drewN hfin.out _⟩
            · have fb : ((X.length : Int) == (L : Int)) = false := beq_eq_false_iff_ne.2 (by omega)
              have hjk : j < k := by omega
              have hjk' : (j : Int) < (k : Int) := by omega
              have hbA : Below wA.heap.size wA wr := B7.out.trans (hbq.mono B7.out.size)
              have hbW : Below w.heap.size w wr := HBk.out.below.trans (hbA.mono (by have := HBk.out.size; omega))
              have S' := SC.out.later hbA
              have I' := HI.out.later hbW
              have hix : ∀ wz, (Instr.indexAt 130 (.slice a k cap) (.int .i64 j)).run Ybad.prog wz = .ok (.pointer (some ⟨ib, ioff + j * 4, none⟩)) wz := idx130 (I'.addr j hjk) k cap j hjk
              have ic3 := I'.c3 j hjk
              have cw := S'.ws j hjk
              have cR := S'.r.trx
              have cT : wr.cell? ⟨lb j, 0, none⟩ = some (.pointer (some ⟨w.heap.size + (ix j % 3).toNat, 0, none⟩)) := (S'.lock j hjk).trx
              have eT : ∀ m, (binOp .eql 79 (.pointer (some ⟨w.heap.size + (ix j % 3).toNat, 0, none⟩)) (.pointer (some ⟨w.heap.size, 0, none⟩))).run Ybad.prog (wr.drewN m) = .ok (.bool (w.heap.size + (ix j % 3).toNat == w.heap.size)) (wr.drewN m) := fun m => trx_eq (w := wr.drewN m) (S'.trx j hjk) S'.rtrx
              have cM : wr.cell? ⟨w.heap.size + 6, j, none⟩ = some (.int .u8 (lmOf tab (im j) (ik j))) := (hbA.cell (p := ⟨w.heap.size + 6, j, none⟩) HBk.out.lms.lt).trans (HBk.out.lms.cell hjk)
              have cK : wr.cell? ⟨w.heap.size + 7, j, none⟩ = some (.int .u8 (lkOf tab (ik j))) := (hbA.cell (p := ⟨w.heap.size + 7, j, none⟩) HBk.out.lks.lt).trans (HBk.out.lks.cell hjk)
              have hPj : P j = (!iw j && ((w.heap.size + (ix j % 3).toNat != w.heap.size) && Plain.waits tab rm rk (lmOf tab (im j) (ik j)) (lkOf tab (ik j)) h)) := by rw [HP.out]; rfl
              have HPj : Hid (P j = (!iw j && ((w.heap.size + (ix j % 3).toNat != w.heap.size) && Plain.waits tab rm rk (lmOf tab (im j) (ik j)) (lkOf tab (ik j)) h))) := hPj
              clear hPj S' I'
              generalize lmOf tab (im j) (ik j) = M at cM HPj
              generalize lkOf tab (ik j) = K at cK HPj
              generalize w.heap.size + (ix j % 3).toNat = T at cT eT HPj
              have NX : Hid (X.length ≠ L) := hfull
              clear hfull
              generalize iw j = v at ic3 HPj
              cases v with
              | true =>
                have HN : Hid (X = (hits P lb (j + 1)).take L) := by show X = _; rw [want_no (by rw [HPj.out]; rfl)]; exact HX.out
                clear eT cM cK
                go_wp2_with fail
                go_quiet (fail)
                go_wp2
                go_roundw
                case rel => exact ⟨j + 1, X, ao, cp, by omega, by go_num, rfl, OW.out, HN.out, below_drewN hbq _⟩
                case measure => simp [intOf]; omega
              | false =>
                cases hTB : (T == w.heap.size) with
                | true =>
                  rw [hTB] at eT
                  have HN : Hid (X = (hits P lb (j + 1)).take L) := by show X = _; rw [want_no (by rw [HPj.out, bne, hTB]; rfl)]; exact HX.out
                  clear cM cK hTB
                  go_wp2_with fail
                  go_quiet (fail)
                  go_wp2
                  go_roundw
                  case rel => exact ⟨j + 1, X, ao, cp, by omega, by go_num, rfl, OW.out, HN.out, below_drewN hbq _⟩
                  case measure => simp [intOf]; omega
                | false =>
                  rw [hTB] at eT
                  have WT : Hid (∀ wz, Calls Ybad.prog 16 #[.bool tab, .int .u8 rm, .int .u8 rk, .int .u8 M, .int .u8 K, .int .u16 h] wz fun e w' => e = .returned (.bool (Plain.waits tab rm rk M K h)) ∧ w' = wz) := fun wz =>
                    (waits_any tab rm rk M K h wz).mono fun _ _ ⟨h1, h2⟩ => ⟨h1, h2.symm⟩
                  have HPw : Hid (P j = Plain.waits tab rm rk M K h) := by show P j = _; rw [HPj.out, bne, hTB]; simp
                  clear hTB
                  generalize Plain.waits tab rm rk M K h = u at WT HPw
                  cases u with
                  | false =>
                    have HN : Hid (X = (hits P lb (j + 1)).take L) := by show X = _; rw [want_no HPw.out]; exact HX.out
                    go_wp2_with fail
                    go_quiet (fail)
                    go_wp2_with fail
                    go_quiet ((go_at_call 16; exact (WT.out _).mono fun _ _ hh => ⟨hh.1, _, hh.2⟩))
                    go_wp2
                    go_roundw
                    case rel => exact ⟨j + 1, X, ao, cp, by omega, by go_num, rfl, OW.out, HN.out, below_drewN hbq _⟩
                    case measure => simp [intOf]; omega
                  | true =>
                    go_wp2_with fail
                    go_quiet (fail)
                    go_wp2_with fail
                    go_quiet ((go_at_call 16; exact (WT.out _).mono fun _ _ hh => ⟨hh.1, _, hh.2⟩))
                    have HY1 : Hid ((hits P lb (j + 1)).take L = X ++ [.pointer (some ⟨lb j, 0, none⟩)]) := by show _ = _; rw [want_yes HPw.out (by rw [← HX.out]; exact NX.out), ← HX.out]
                    have hbs := hbq.size
                    go_wp2_with (at_builtin; refine wpList_append_own _ rfl _ _ 84 rfl w7.heap.size 82 i82 (.pointer none) 1 8 Ybad.underlying84 I82.out I0.out I1.out I2.out rfl (by decide) (.slice ao X.length cp) X.length X rfl (by exact OW.out.alloc _) ⟨wr.heap.size, 0, none⟩ 1 1 [.pointer (some ⟨lb j, 0, none⟩)] rfl rfl (by exact cell_one_new _ _ _) ?c2 ?c3 ?c4 ?c5 ?_)
                    case c2 => intro u hu; simp at hu; subst hu; rfl
                    case c3 => unfold maxLen; omega
                    case c4 => omega
                    case c5 => rw [World.size_alloc]; exact Nat.le_succ_of_le hbs
                    intro v' w8 hown' hgrow _
                    obtain ⟨g', cap', hv', _⟩ := owns_shape hown'
                    have HV' : Hid (v' = .slice (some ⟨g', 0, none⟩) (X.length + 1) cap') := hv'
                    have HO' : Hid (w8.ownsRow w7.heap.size 82 1 v' (X.length + 1) (X ++ [.pointer (some ⟨lb j, 0, none⟩)])) := hown'
                    have HB8 : Hid (Below w7.heap.size w7 w8) := ((below_drewN hbq _).alloc hbs _).grown hgrow (by rw [World.size_alloc]; exact Nat.le_succ_of_le hbs) (own_ge OW.out)
                    clear hv' hown' hgrow eT cM cK cT cw cR ic3 hix
                    go_wp2_with fail
                    go_roundw
                    case rel => exact ⟨j + 1, X ++ [.pointer (some ⟨lb j, 0, none⟩)], some ⟨g', 0, none⟩, cap', by omega, by go_num, by rw [HV'.out]; simp, by rw [List.length_append]; exact HO'.out, HY1.out.symm, HB8.out⟩
                    case measure => simp [intOf]; omega
          · obtain rfl : j = n := by omega
            have HXn : Hid ((hits P lb j).take L = X) := HX.out.symm
            obtain ⟨wE, hwE⟩ : ∃ wE, wE = wr := ⟨_, rfl⟩
            subst hwE
            have hgot := (G7.out.later hbq)
            rw [HXn.out] at hgot
            obtain ⟨gv, hG1, hGo⟩ := hgot
            obtain ⟨ga, gc, hgv⟩ := owns_slice hGo
            subst hgv
            have cG := cell_of_one hG1
            have OG : Hid (wE.ownsRow (wA.heap.size + 6) 82 1 (.slice ga X.length gc) X.length X) := hGo
            have nl : ((X.length : Int) != (X.length : Int)) = false := by simp
            have hfin : Hid (Below w.heap.size w wE) := (HBk.out.below.trans (B7.out.mono (by have := HBk.out.size; omega))).trans (hbq.mono (by have := HBk.out.size; have := B7.out.size; omega))
            clear hG1 hGo hbq
            go_wp2_with fail
            go_loopw [210] (fun i wz => ∃ (q m : Nat), q ≤ X.length ∧ i = .int .i64 q ∧ wz = wE.drewN m) (fun i _ => X.length - (intOf i).toNat)
            case atStart => exact ⟨0, 0, Nat.zero_le _, rfl, rfl⟩
            case round =>
              obtain ⟨q, m, hq, rfl, rfl⟩ := hrel
              by_cases hlt3 : q < X.length
              · obtain ⟨gg, hix1, hc1⟩ := owns_at OG.out q hlt3
                obtain ⟨gw, hix2, hc2⟩ := owns_at OW.out q hlt3
                obtain ⟨pa, hpa⟩ := hits_ptr (show X[q] ∈ (hits P lb j).take L by rw [← HX.out]; exact List.getElem_mem hlt3)
                rw [hpa] at hc1 hc2
                have n82 := ne82 pa
                clear hpa
                go_wp2_with fail
                go_quiet (fail)
                go_wp2
                go_roundw
                case rel => exact ⟨q + 1, _, by omega, by go_num, rfl⟩
                case measure => simp [intOf]; omega
              · go_wp2_with fail
                go_ret
                exact ⟨rfl, below_drewN hfin.out _⟩

set_option maxRecDepth 100000 in
/-- More than 1024 items: true at once. -/
theorem law_long (tab : Bool) (p h : Int) (a : Option Addr) (N cap : Nat) (ah st : Int) (w : World) (hN : 1024 < N) :
    Calls Ybad.prog 5 #[.bool tab, .int .u8 p, .int .u16 h, .slice a N cap, .int .u16 ah, .int .u8 st] w fun e w' => e = .returned (.bool true) ∧ Below w.heap.size w w' := by
  have d0 : (1024 : Int) < (N : Int) := by omega
  go_enter Ybad.func5, Ybad.ntmps5
  go_wp2_with fail
  go_ret
  exact ⟨rfl, Below.refl _ _⟩
end Go.Proofs.YbulkajcDoor
