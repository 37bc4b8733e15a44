/-
  The contract of strings.IndexByte over this program.
-/
import Derived.Test.Qxb6001342aRows
import Derived.WalkKit
import Derived.WalkSpells
import Derived.Lib.Bytealg
namespace Go.Proofs.Qxb6001342a
open Go.RowKit

set_option maxHeartbeats 1000000 in
set_option maxRecDepth 100000 in
theorem slite_IndexByte (s : ByteArray) (c : Int) (w : World) :
    Calls Try.prog 23 #[.string s, .int .u8 c] w fun e w' => e = .returned (.int .i64 (Lib.indexByte s.data.toList c.toNat.toUInt8)) ∧ w' = w := by
  go_enter Try.func23, Try.ntmps23
  go_wp2
  rw [run_callFunc_extern Try.func25 (by kernel_rfl) (by kernel_rfl) (by kernel_rfl) (e := Extern.BytealgIndexByte.indexByte) (by kernel_rfl), Lib.run_indexByteString]
  simp only [Result.andThen]
  rw [Oper.upon_value]
  go_wp2
  go_ret
  exact ⟨rfl, rfl⟩

set_option maxHeartbeats 1000000 in
theorem str_IndexByte (s : ByteArray) (c : Int) (w : World) :
    Calls Try.prog 19 #[.string s, .int .u8 c] w fun e w' => e = .returned (.int .i64 (Lib.indexByte s.data.toList c.toNat.toUInt8)) ∧ w' = w := by
  go_enter Try.func19, Try.ntmps19
  go_wp2_with (go_at_call 23; refine (slite_IndexByte _ _ _).mono ?_; rintro e w' ⟨rfl, rfl⟩)
  go_ret
  exact ⟨rfl, rfl⟩

/-- Is the byte one of the operators of an extended glob? -/
def ext (c : Int) : Int := Lib.indexByte [63, 42, 43, 64, 33] c.toNat.toUInt8

/-- strings.IndexByte at the operators: its answer under one name. -/
theorem ext_call (c : Int) (w : World) :
    Calls Try.prog 19 #[.string ⟨#[63, 42, 43, 64, 33]⟩, .int .u8 c] w fun e w' => e = .returned (.int .i64 (ext c)) ∧ w' = w :=
  str_IndexByte ⟨#[63, 42, 43, 64, 33]⟩ c w

end Go.Proofs.Qxb6001342a
