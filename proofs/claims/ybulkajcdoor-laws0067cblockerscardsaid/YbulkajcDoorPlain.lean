/-
  OUR OWN: THE PLAIN FUNCTIONS of 'LawS0067CBlockers': no Go in sight.
-/
namespace Go.Proofs.YbulkajcDoor.Plain

/-- Whether a lock of mode l and a request of mode r of another transaction can be held together. -/
def compat (l r : Int) : Bool :=
  if l = 0 then (r != 3) else if l = 1 then (r == 0 || r == 1 || r == 4) else if l = 2 then (r == 0 || r == 2) else if l = 3 then false else (r == 0 || r == 1)

/-- Whether a request (rm, rk) waits for an earlier one (lm, lk) of another transaction. -/
def waits (tab : Bool) (rm rk lm lk heap : Int) : Bool :=
  if tab then !compat lm rm
  else if rm = 2 ∧ lm = 2 then false
  else if rk ≠ 3 ∧ (rk = 2 ∨ heap = 1) then false
  else if rk ≠ 3 ∧ 2 ≤ lk then false
  else if rk = 3 ∧ lk = 1 then false
  else if lk = 3 then false
  else true
end Go.Proofs.YbulkajcDoor.Plain
