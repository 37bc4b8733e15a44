/-
  The contract of bytes.Count at a separator of one byte, over this program; the cut data[p:q].
-/
import Derived.Test.Qxb6600300aCopy
import Derived.Shelf.Bytes.SlCountOne
import Derived.Lib.SlBytesConst
namespace Go.Proofs.Qxb6600300a
open Go.RowKit

set_option maxHeartbeats 1000000 in
set_option maxRecDepth 100000 in
theorem count_row (x : Addr) (n c g d : Nat) (xs : List Int) (w : World) (hx : xs.length = n) (hc : ∀ i, i < n → w.cell? (x.add i) = some (.int .u8 (xs.getD i 0))) (hs : w.cell? ⟨g, 0, none⟩ = some (.int .u8 10)) :
    Calls Try.prog 23 #[.slice (some x) n c, .slice (some ⟨g, 0, none⟩) 1 d] w fun e w' => e = .returned (.int .i64 (Lib.countByte (Lib.bytesOf xs) 10)) ∧ w' = w := by
  go_enter Try.func23, Try.ntmps23
  go_wp2
  rw [run_callFunc_extern Try.func25 (by kernel_rfl) (by kernel_rfl) (by kernel_rfl) (e := Extern.BytealgCount.count) (by kernel_rfl), Lib.run_countAt w x n c xs hx hc 10]
  simp only [Result.andThen]
  rw [Oper.upon_value]
  go_wp2
  go_ret
  exact ⟨rfl, rfl⟩

set_option maxHeartbeats 1000000 in
set_option maxRecDepth 100000 in
theorem count_nil (g d : Nat) (w : World) (hs : w.cell? ⟨g, 0, none⟩ = some (.int .u8 10)) :
    Calls Try.prog 23 #[.slice none 0 0, .slice (some ⟨g, 0, none⟩) 1 d] w fun e w' => e = .returned (.int .i64 0) ∧ w' = w := by
  go_enter Try.func23, Try.ntmps23
  go_wp2
  rw [run_callFunc_extern Try.func25 (by kernel_rfl) (by kernel_rfl) (by kernel_rfl) (e := Extern.BytealgCount.count) (by kernel_rfl), Lib.run_countNil w 0 0 10]
  simp only [Result.andThen]
  rw [Oper.upon_value]
  go_wp2
  go_ret
  exact ⟨rfl, rfl⟩

/-- Where data[p:] begins: at the end of the array the address stays. -/
def cutAddr (D p len : Nat) : Addr := if p = len then ⟨D, 0, none⟩ else ⟨D, p, none⟩

theorem run_cut (D len p q : Nat) (hpq : p ≤ q) (hq : q ≤ len) (w : World) :
    (Instr.slice 31 (.slice (some ⟨D, 0, none⟩) len len) (some (.int .i64 p)) (some (.int .i64 q)) none).run Try.prog w = .ok (.slice (some (cutAddr D p len)) (q - p) (len - p)) w := by
  have ht : Try.prog.underlying 31 = some (.slice (Try.prog.elem 31)) := by kernel_rfl
  have hz : (sizeOf (Try.prog.elem 31)).run Try.prog w = .ok 1 w := by kernel_rfl
  rw [run_slice_lh (P := Try.prog) (w := w) 31 (some ⟨D, 0, none⟩) len len ht .i64 .i64 p q (by omega) (by omega) (by omega), hz]
  simp only [Result.andThen, Int.toNat_natCast]
  unfold cutAddr sliced
  by_cases h : p = len
  · simp [h]
  · have h' : ¬ len = p := fun e => h e.symm
    simp [h, h', Addr.add]
    exact fun e => e.symm

/-- The cells of the cut: those of the row from p on. -/
theorem cut_cells {w : World} {D len p q : Nat} {zs : List Int} (hz : len ≤ zs.length) (hpq : p ≤ q) (hq : q ≤ len) (hd : ∀ i, i < len → w.cell? ⟨D, i, none⟩ = some (.int .u8 (zs.getD i 0))) :
    ((zs.drop p).take (q - p)).length = q - p ∧ ∀ i, i < q - p → w.cell? ((cutAddr D p len).add i) = some (.int .u8 (((zs.drop p).take (q - p)).getD i 0)) := by
  refine ⟨by simp; omega, fun i hi => ?_⟩
  have e : (cutAddr D p len).add i = ⟨D, p + i, none⟩ := by
    unfold cutAddr
    rw [if_neg (show ¬ p = len by omega)]
    unfold Addr.add
    split
    · rename_i h0; rw [h0]; rfl
    · rfl
  rw [e, hd (p + i) (by omega)]
  simp [List.getD, hi]

end Go.Proofs.Qxb6600300a
