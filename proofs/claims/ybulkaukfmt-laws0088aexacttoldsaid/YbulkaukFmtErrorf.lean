/-
  OUR OWN (after the guide's HexbadFmt.lean): THE CLOSED FACTS FOR A WALK OVER fmt.errorf's STOPPED FRONT, each by the kernel's own evaluation; then 'fmt.Errorf' (function 8) by its three contracts: FOR EVERY F; of the error nothing is told but that it is not nil.
-/
import Derived.Test.YbulkaukFmtBig
import Derived.Stop.CallBack
import Derived.Stop.IfaceNil
import GoSem.ClaimData
namespace Go.Proofs.YbulkaukFmt
open Go.RowKit Go.Extern.Stop Go.Stop Go.Extern

theorem call9 (args : Array Value) (w : World) : (callFunc 9 args).run Ybaf.prog w = (FmtCalls.errorf #[9, 36] #[29] args).run Ybaf.prog w :=
  run_callFunc_next Ybaf.func9 (by kernel_rfl) (by kernel_rfl) (by kernel_rfl) args w
theorem guard (name : String) (w : World) : (FmtStop.guard name).run Ybaf.prog w = .ok () w := by kernel_rfl
theorem nextTurns : Extern.next FmtCalls.turnsRow = some (FmtCalls.begun #[] #[]) := by kernel_rfl
theorem nextReturned : Extern.next FmtCalls.returnedRow = some (FmtCalls.returned #[] #[]) := by kernel_rfl

-- the three formats
theorem fmtItems (w : World) : (FmtDoors.printed ⟨#[37, 100, 32, 105, 116, 101, 109, 115, 58, 32, 116, 104, 101, 121, 32, 109, 117, 115, 116, 32, 98, 101, 32, 102, 114, 111, 109, 32, 37, 100, 44, 32, 97, 115, 32, 109, 97, 110, 121, 32, 97, 115, 32, 97, 32, 112, 117, 114, 99, 104, 97, 115, 101, 32, 109, 97, 121, 32, 110, 97, 109, 101, 44, 32, 116, 111, 32, 37, 100]⟩ 3).run Ybaf.prog w = .ok [(0, 100, false), (1, 100, false), (2, 100, false)] w := by kernel_rfl
theorem fmtClients (w : World) : (FmtDoors.printed ⟨#[37, 100, 32, 99, 108, 105, 101, 110, 116, 115, 58, 32, 97, 116, 32, 108, 101, 97, 115, 116, 32, 49, 32, 105, 115, 32, 110, 101, 101, 100, 101, 100]⟩ 1).run Ybaf.prog w = .ok [(0, 100, false)] w := by kernel_rfl
theorem fmtDuration (w : World) : (FmtDoors.printed ⟨#[97, 32, 100, 117, 114, 97, 116, 105, 111, 110, 32, 111, 102, 32, 37, 118, 32, 105, 115, 32, 110, 111, 116, 32, 112, 111, 115, 105, 116, 105, 118, 101]⟩ 1).run Ybaf.prog w = .ok [(0, 118, false)] w := by kernel_rfl

-- what each operand type reads as
def shape3 : List UInt8 := [5, 3, 0, 0, 0, 0, 0, 0, 0, 105, 110, 116]
theorem act3 (name : String) (x : Value) (w : World) : (FmtCalls.act name true 100 false (.iface 3 x)).run Ybaf.prog w = .ok (.closed true) w := by kernel_rfl
theorem op3 (name : String) (x : Int) (w : World) : (FmtStop.operand name true 100 false (.iface 3 (.int .i64 x))).run Ybaf.prog w = .ok (shape3, Go.Extern.Stop.digits 8 (x % 2 ^ 64).toNat) w := by kernel_rfl
theorem act23 (name : String) (x : Value) (w : World) : (FmtCalls.act name true 118 false (.iface 23 x)).run Ybaf.prog w = .ok (.call false) w := by kernel_rfl
theorem invoke23 (x : Value) (w : World) : (invoke (.fn (.method "String") #[]) #[.iface 23 x]).run Ybaf.prog w = .ok (.enter 11 #[x]) w := by kernel_rfl
theorem str23 (w : World) : (typeStr 23).run Ybaf.prog w = .ok "time.Duration" w := by kernel_rfl

-- the error type that it makes
theorem ptr39 (w : World) : (FmtStop.ptrTo "errors.errorString").run Ybaf.prog w = .ok 39 w := by kernel_rfl
theorem elem39 (w : World) : (elemOf 39).run Ybaf.prog w = .ok 41 w := by kernel_rfl

attribute [local go_sem] call9 guard fmtItems fmtClients fmtDuration act3 op3 act23 str23 ptr39 elem39

set_option maxHeartbeats 1000000 in
theorem errorf_items (F : Interp) (x y z : Int) (blk : Nat) (w : World) (hF : F.answers w.tape)
    (c0 : w.cell? ⟨blk, 0, none⟩ = some (.iface 3 (.int .i64 x))) (c1 : w.cell? ⟨blk, 1, none⟩ = some (.iface 3 (.int .i64 y))) (c2 : w.cell? ⟨blk, 2, none⟩ = some (.iface 3 (.int .i64 z))) :
    Calls Ybaf.prog 8 #[.string ⟨#[37, 100, 32, 105, 116, 101, 109, 115, 58, 32, 116, 104, 101, 121, 32, 109, 117, 115, 116, 32, 98, 101, 32, 102, 114, 111, 109, 32, 37, 100, 44, 32, 97, 115, 32, 109, 97, 110, 121, 32, 97, 115, 32, 97, 32, 112, 117, 114, 99, 104, 97, 115, 101, 32, 109, 97, 121, 32, 110, 97, 109, 101, 44, 32, 116, 111, 32, 37, 100]⟩, .slice (some ⟨blk, 0, none⟩) 3 3] w fun e w' => (∃ p, e = .returned (.iface 39 p)) ∧ Below w.heap.size w w' := by
  have hF' := answers_open hF
  go_enter Ybaf.func8, Ybaf.ntmps8
  go_wp2
  apply rows_value nextTurns
  case hr =>
    go_simp
    exact ⟨rfl, rfl⟩
  case h =>
    go_wp2
    go_ret
    exact ⟨⟨_, rfl⟩, ((Below.refl _ w).drew).alloc (Nat.le_refl _) _⟩

set_option maxHeartbeats 1000000 in
theorem errorf_clients (F : Interp) (x : Int) (blk : Nat) (w : World) (hF : F.answers w.tape) (c0 : w.cell? ⟨blk, 0, none⟩ = some (.iface 3 (.int .i64 x))) :
    Calls Ybaf.prog 8 #[.string ⟨#[37, 100, 32, 99, 108, 105, 101, 110, 116, 115, 58, 32, 97, 116, 32, 108, 101, 97, 115, 116, 32, 49, 32, 105, 115, 32, 110, 101, 101, 100, 101, 100]⟩, .slice (some ⟨blk, 0, none⟩) 1 1] w fun e w' => (∃ p, e = .returned (.iface 39 p)) ∧ Below w.heap.size w w' := by
  have hF' := answers_open hF
  go_enter Ybaf.func8, Ybaf.ntmps8
  go_wp2
  apply rows_value nextTurns
  case hr =>
    go_simp
    exact ⟨rfl, rfl⟩
  case h =>
    go_wp2
    go_ret
    exact ⟨⟨_, rfl⟩, ((Below.refl _ w).drew).alloc (Nat.le_refl _) _⟩

set_option maxHeartbeats 1000000 in
theorem errorf_duration (F : Interp) (d : Int) (h0 : d ≤ 0) (h1 : -9223372036854775808 ≤ d) (blk : Nat) (w : World) (hF : F.answers w.tape) (c0 : w.cell? ⟨blk, 0, none⟩ = some (.iface 23 (.int .i64 d))) :
    Calls Ybaf.prog 8 #[.string ⟨#[97, 32, 100, 117, 114, 97, 116, 105, 111, 110, 32, 111, 102, 32, 37, 118, 32, 105, 115, 32, 110, 111, 116, 32, 112, 111, 115, 105, 116, 105, 118, 101]⟩, .slice (some ⟨blk, 0, none⟩) 1 1] w fun e w' => (∃ p, e = .returned (.iface 39 p)) ∧ Below w.heap.size w w' := by
  have hF' := answers_open hF
  go_enter Ybaf.func8, Ybaf.ntmps8
  go_wp2
  apply rows_call nextTurns
  case hr =>
    go_simp
    exact ⟨⟨rfl, rfl, rfl⟩, rfl⟩
  case hi => exact invoke23 _ _
  case hc =>
    refine (string_w _ d h0 h1).mono ?_
    rintro e w1 ⟨s, rfl, hB⟩
    have hF1 : F.answers w1.tape := by rw [hB.tape]; exact hF
    have hF1' := answers_open hF1
    have HB : Hid (Below w.heap.size w w1) := hB
    have hsz := hB.size
    clear hB
    apply rows_value nextReturned
    case hr =>
      go_simp
      exact ⟨rfl, rfl⟩
    case h =>
      go_wp2
      go_ret
      exact ⟨⟨_, rfl⟩, (HB.out.drew).alloc (by exact hsz) _⟩
end Go.Proofs.YbulkaukFmt
