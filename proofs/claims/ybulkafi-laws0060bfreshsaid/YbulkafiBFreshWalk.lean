/-
  OUR OWN: THE WALK OF 'LawS0060BFresh' (function 5).
-/
import Derived.Test.YbulkafiOutbox
import Derived.LoopTactic
namespace Go.Proofs.Ybulkafi
open Go.RowKit Go.Maps

theorem keyed26 : Keyed Yba.prog 26 := string_keyed Yba.underlying26
theorem zero3 (w : World) : (zeroValue 3).run Yba.prog w = .ok (.int .i64 0) w := by kernel_rfl

theorem wpList_build_of {P : Program} {w : World} {ops : Array Oper} {rest : List Oper} {o : Oper} {a : Act} {Q : Exit → Act → World → Prop} (hg : o.guard = none) (t : TypeId) (ho : o.op = .build t #[]) (Z : Value) (hr : ∀ w, (Instr.build t #[]).run P w = .ok Z w)
    (h : wpList P ops Q rest (a.put o.dst Z) w) : wpList P ops Q (o :: rest) a w := by
  refine wpList_plain hg fun K hK => ?_
  unfold Oper.wp execOp
  simp only [ho, List.map_toArray, List.map_nil, Sem.run_bind, hr, Result.andThen_ok]
  exact hK _ _ h
/-- The zero Node: of its cells only the field 'moving' is looked at. -/
theorem node_zero : ∃ C : Array Value, (∀ w, (Instr.build 58 #[]).run Yba.prog w = .ok (.agg C) w) ∧ C[41]? = some (.pointer none) :=
  ⟨(((Yba.prog.info? 58).bind (·.zero)).getD undef).cells, fun _ => by kernel_rfl, by kernel_rfl⟩

theorem len_empty {t k e : TypeId} {w : World} {b : Nat} (ht : Yba.prog.underlying t = some (.map k e)) (hb : w.heap[b]? = some (.map #[] 0)) (ty : TypeId) : (Builtin.len_ #[t] ty #[.map (some b)]).run Yba.prog w = .ok (.int .i64 0) w := by
  simp [Builtin.len_, run_underlying ht, MapKept.run_getObj_map hb, goInt, Result.andThen]

/-- What the rest of the law meets behind the first 'outbox': w1 the world there, w2 the world behind the store into 'inFlight'. -/
structure Next (b B : Nat) (key : ByteArray) (v : Int) (w w1 w2 : World) : Prop where
  l1 : ∀ ty, (Builtin.len_ #[61] ty #[.map (some B)]).run Yba.prog w1 = .ok (.int .i64 0) w1
  l2 : ∀ ty, (Builtin.len_ #[62] ty #[.map (some (B + 1))]).run Yba.prog w1 = .ok (.int .i64 0) w1
  l3 : ∀ ty, (Builtin.len_ #[64] ty #[.map (some (B + 1 + 1))]).run Yba.prog w1 = .ok (.int .i64 0) w1
  up : (Instr.mapUpdate 64 (.map (some (B + 1 + 1))) (.string key) (.int .i64 v)).run Yba.prog w1 = .ok () w2
  moving : w2.cell? ⟨b, 41, none⟩ = some (.pointer (some ⟨B + 1 + 1 + 1, 0, none⟩))
  inFlight : w2.cell? ⟨B + 1 + 1 + 1, 4, none⟩ = some (.map (some (B + 1 + 1)))
  look : (Instr.lookup 64 (.map (some (B + 1 + 1))) (.string key) true).run Yba.prog w2 = .ok (.tuple #[.int .i64 v, .bool true]) w2
  len : ∀ ty, (Builtin.len_ #[64] ty #[.map (some (B + 1 + 1))]).run Yba.prog w2 = .ok (.int .i64 1) w2
  below : Below b w w2

theorem next_of {b B : Nat} {key : ByteArray} {v : Int} {w w1 : World} (hk : key.size ≤ maxLen) (hv : (Lit.int .i64 v).wf = true) (hb : b < B) (F : Fresh b B w w1) : ∃ w2, Next b B key v w w1 w2 := by
  have hown : w1.ownsMap (H := Unit) Yba.prog 26 (plainElem Yba.prog 3) (B + 1 + 1) 0 (.map []) := by
    obtain ⟨es, c, h1, h2, h3, h4⟩ := World.ownsMap_made (H := Unit) w1 Yba.prog 26 (plainElem Yba.prog 3)
    have e0 : es = #[] ∧ c = 0 := by
      have := heap_new w1 (.map #[] 0)
      rw [this] at h1
      simp at h1
      exact ⟨h1.1, h1.2.symm⟩
    obtain ⟨rfl, rfl⟩ := e0
    exact ⟨_, _, F.m3, h2, h3, h4⟩
  have hkey : keyOf Yba.prog 26 (.string key) = some (.string key.data.toList) := WideMaps.keyOf_string_mk Yba.underlying26 hk
  obtain ⟨w2, hup, hown2, hg⟩ := hown.update keyed26 Yba.underlying64 (by decide) hkey (plainElem_int Yba.underlying3 hv)
  have hkl : WideAt.IsKeyLit (Lit.string key.data.toList) := trivial
  have hD : IsMap (H := Unit) (.map []) := isMap_empty
  obtain ⟨u, ps, hlook, hR⟩ := hown2.look_ok keyed26 Yba.underlying64 (zero3 w2) (plainElem_int Yba.underlying3 (by decide)) hkey
  rw [has_put_same hD hkl] at hlook
  rw [atKey_put_same hD hkl] at hR
  obtain ⟨c, rfl, hc, _⟩ := plainElem_int_inv Yba.underlying3 hR
  have hcv : c = v ∧ ps = [] := by simpa using hc.symm
  replace hcv := hcv.1
  subst hcv
  have hlen := fun ty => hown2.len Yba.underlying64 ty
  have h1 : Maps.size (H := Unit) ((DataW.map []).put (.string key.data.toList) (.lit (.int .i64 c))) = 1 := by
    rw [size_put tidy_empty]
    simp [Maps.has, Maps.size]
  rw [h1] at hlen
  have hbl : ∀ k, k < w1.heap.size → k ≠ B + 1 + 1 → w2.heap[k]? = w1.heap[k]? := fun k hk hne => hg.block k hk (by simpa using hne)
  have hs := F.size
  refine ⟨w2, fun ty => len_empty Yba.underlying61 F.m1 ty, fun ty => len_empty Yba.underlying62 F.m2 ty, fun ty => len_empty Yba.underlying64 F.m3 ty, hup, ?_, ?_, hlook, hlen, ?_⟩
  · exact (World.cell?_of_block (a := ⟨b, 41, none⟩) (hbl b (by omega) (by omega))).trans F.moving
  · exact (World.cell?_of_block (a := ⟨B + 1 + 1 + 1, 4, none⟩) (hbl _ (by simp; omega) (by simp))).trans F.inFlight
  · exact F.below.grown hg (by omega) (fun k hk => by cases hk; omega)

set_option maxRecDepth 100000 in
set_option maxHeartbeats 1000000 in
theorem bfresh_walk (a0 : Int) (a1 : ByteArray) (a2 : Int) (w0 : (Lit.int .u8 a0).wf = true) (w1 : a1.size ≤ maxLen) (w2 : (Lit.int .i64 a2).wf = true) (w : World) :
    Calls Yba.prog 5 #[.int .u8 a0, .string a1, .int .i64 a2] w fun e w' => e = .returned (.bool true) ∧ Below w.heap.size w w' := by
  have q61 : ∀ (w : World) (r : Option Nat), (binOp .eql 61 (.map r) (.map none)).run Yba.prog w = .ok (.bool r.isNone) w := fun w r => run_eql_map_nil w _ _ _ r Yba.underlying61
  have q62 : ∀ (w : World) (r : Option Nat), (binOp .eql 62 (.map r) (.map none)).run Yba.prog w = .ok (.bool r.isNone) w := fun w r => run_eql_map_nil w _ _ _ r Yba.underlying62
  have q64 : ∀ (w : World) (r : Option Nat), (binOp .eql 64 (.map r) (.map none)).run Yba.prog w = .ok (.bool r.isNone) w := fun w r => run_eql_map_nil w _ _ _ r Yba.underlying64
  have s60 : ∀ (w : World), (binOp .neq 60 (.slice none 0 0) (.slice none 0 0)).run Yba.prog w = .ok (.bool false) w := fun w => run_neq_slice_nil_any w _ _ none 0 0 0 0 Yba.underlying60
  have s63 : ∀ (w : World), (binOp .neq 63 (.slice none 0 0) (.slice none 0 0)).run Yba.prog w = .ok (.bool false) w := fun w => run_neq_slice_nil_any w _ _ none 0 0 0 0 Yba.underlying63
  have s65 : ∀ (w : World), (binOp .neq 65 (.slice none 0 0) (.slice none 0 0)).run Yba.prog w = .ok (.bool false) w := fun w => run_neq_slice_nil_any w _ _ none 0 0 0 0 Yba.underlying65
  have e51 := eq51
  have d51 := ne51
  obtain ⟨C, bu, h41⟩ := node_zero
  have n41 : (w.alloc (.cells C 58)).cell? ⟨w.heap.size, 41, none⟩ = some (.pointer none) := by simp only [World.cell?, heap_new, h41]; rfl
  have f41 : (w.alloc (.cells C 58)).frozen? ⟨w.heap.size, 41, none⟩ = false := by simp only [World.frozen?, heap_new]; rfl
  have hsz : w.heap.size < (w.alloc (.cells C 58)).heap.size := by simp
  have hlo : 0 ≤ a0 := by simp [Lit.wf, IntKind.min, IntKind.max, IntKind.signed, IntKind.bits] at w0; omega
  have hhi : a0 ≤ 255 := by simp [Lit.wf, IntKind.min, IntKind.max, IntKind.signed, IntKind.bits] at w0; omega
  have W0 : Hid ((Lit.int .u8 a0).wf = true) := w0
  have W1 : Hid (a1.size ≤ maxLen) := w1
  have W2 : Hid ((Lit.int .i64 a2).wf = true) := w2
  clear w0 w1 w2 h41
  go_enter Yba.func5, Yba.ntmps5
  go_wp2_with (first | (go_at_call 10; refine (outbox_fresh w.heap.size _ n41 f41 hsz).mono ?_; rintro e w1 ⟨rfl, F⟩; obtain ⟨w2, N⟩ := next_of (key := a1) (v := a2) W1.out W2.out hsz F; obtain ⟨f1, f2, f3, f4, f5, f6, f7, f8, f9, f10, f11, f12⟩ := F; obtain ⟨g1, g2, g3, g4, g5, g6, g7, g8, g9⟩ := N; clear n41 f41 hsz bu f8 f9 f10 f11 f12; simp only [World.size_alloc] at f1 f2 f3 f4 f5 f6 f7 g1 g2 g3 g4 g5 g6 g7 g8) | with_reducible refine wpList_build_of rfl 58 rfl (.agg C) bu ?_)
  clear f1 f2 f3 f4 f5 f6 f7 g1 g2 g3 g4 s60 s63 s65 q61 q62 q64
  have hm : a0 % 8 + 1 ≤ 8 := by omega
  have hm0 : 0 ≤ a0 % 8 := by omega
  go_loop [10] (fun i => ∃ k : Nat, (k : Int) ≤ a0 % 8 + 1 ∧ i = .int .i64 k) (fun i => 8 - (intOf i).toNat)
  case atStart => exact ⟨0, by simp; omega, rfl⟩
  case round =>
    obtain ⟨k, hk, rfl⟩ := hrel
    by_cases hlt : (k : Int) < a0 % 8 + 1
    · go_wp2_with (go_at_call 10; refine (outbox_kept _ _ _ g5).mono ?_; rintro e w3 ⟨rfl, rfl⟩)
      go_round
      case rel => exact ⟨k + 1, by omega, by go_num⟩
      case measure => simp [intOf]; omega
    · go_wp2_with fail
      go_ret
      exact ⟨rfl, (Below.refl _ _).alloc (Nat.le_refl _) _ |>.trans g9⟩
end Go.Proofs.Ybulkafi
