/-
  What 'after' can answer from each single state.
-/
import Derived.Test.Qxb6001342aSteps
namespace Go.Proofs.Qxb6001342a
open Go.RowKit

/-- The answers that 'after' can give from the state st; syn: does the byte bear its glob meaning? -/
def outs (st : Int) (syn : Bool) : List Int :=
  if st = 64 then [64]
  else if st = 32 then (if syn then [0, 16] else [0])
  else if st = 16 then [64, 16]
  else if st = 8 then [1, 8]
  else if st = 4 then (if syn then [64, 12, 44, 8, 40] else [64, 8])
  else if st = 2 then (if syn then [1, 4, 36, 14, 46, 12, 44, 16, 48, 8, 40] else [1, 4, 8])
  else (if syn then [1, 2, 34, 8, 40] else [1, 2, 8])

theorem out_of {k : IntKind} {st : Int} {syn : Bool} {r : Int} (h : r ∈ outs st syn) : ∃ x, Ending.returned (.int k r) = .returned (.int k x) ∧ x ∈ outs st syn := ⟨r, rfl, h⟩

set_option maxHeartbeats 4000000 in
theorem after_true (st c : Int) (w : World) (hst : st = 1 ∨ st = 2 ∨ st = 4 ∨ st = 8 ∨ st = 16 ∨ st = 32 ∨ st = 64) :
    Calls Try.prog 17 #[.int .u8 st, .int .u8 c, .bool true] w fun e w' => (∃ x, e = .returned (.int .u8 x) ∧ x ∈ outs st true) ∧ w' = w := by
  rcases hst with rfl | rfl | rfl | rfl | rfl | rfl | rfl
  all_goals
    go_enter Try.func17, Try.ntmps17
    go_wp2_with (go_at_call 19; refine (ext_call _ _).mono ?_; rintro e w' ⟨rfl, rfl⟩)
  all_goals go_ret
  all_goals exact ⟨out_of (by decide), rfl⟩

set_option maxHeartbeats 4000000 in
theorem after_false (st c : Int) (w : World) (hst : st = 1 ∨ st = 2 ∨ st = 4 ∨ st = 8 ∨ st = 16 ∨ st = 32 ∨ st = 64) :
    Calls Try.prog 17 #[.int .u8 st, .int .u8 c, .bool false] w fun e w' => (∃ x, e = .returned (.int .u8 x) ∧ x ∈ outs st false) ∧ w' = w := by
  rcases hst with rfl | rfl | rfl | rfl | rfl | rfl | rfl
  all_goals
    go_enter Try.func17, Try.ntmps17
    go_wp2_with fail
  all_goals go_ret
  all_goals exact ⟨out_of (by decide), rfl⟩

theorem after_any (st c : Int) (syn : Bool) (w : World) (hst : st = 1 ∨ st = 2 ∨ st = 4 ∨ st = 8 ∨ st = 16 ∨ st = 32 ∨ st = 64) :
    Calls Try.prog 17 #[.int .u8 st, .int .u8 c, .bool syn] w fun e w' => (∃ x, e = .returned (.int .u8 x) ∧ x ∈ outs st syn) ∧ w' = w := by
  cases syn
  · exact after_false st c w hst
  · exact after_true st c w hst

set_option maxHeartbeats 1000000 in
theorem zzAfter (st c : Int) (syn : Bool) (w : World) (hst : st = 1 ∨ st = 2 ∨ st = 4 ∨ st = 8 ∨ st = 16 ∨ st = 32 ∨ st = 64) :
    Calls Try.prog 9 #[.int .u8 st, .int .u8 c, .bool syn] w fun e w' => (∃ x, e = .returned (.int .u8 x) ∧ x ∈ outs st syn) ∧ w' = w := by
  go_enter Try.func9, Try.ntmps9
  go_wp2_with (go_at_call 17; refine (after_any _ _ _ _ hst).mono ?_; rintro e w' ⟨⟨x, rfl, hx⟩, rfl⟩)
  go_ret
  exact ⟨⟨_, rfl, hx⟩, rfl⟩

end Go.Proofs.Qxb6001342a
