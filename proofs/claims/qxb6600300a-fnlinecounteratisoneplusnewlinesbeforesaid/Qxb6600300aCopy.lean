/-
  The contracts of copyBytes and copyInt64s: a new row that holds what the argument holds.
-/
import Derived.Test.Qxb6600300aRows
import Derived.WalkKit
import Derived.WalkSpells
import Derived.OpenShut
import Derived.Deep.OwnRows
namespace Go.Proofs.Qxb6600300a
open Go.RowKit

theorem info5 : (Try.prog.info? 5).map (fun i => (i.zero, i.size, i.bytes)) = some (some (.int .u8 0), 1, 1) := by kernel_rfl
theorem info2 : (Try.prog.info? 2).map (fun i => (i.zero, i.size, i.bytes)) = some (some (.int .i64 0), 1, 8) := by kernel_rfl
theorem info3 : (Try.prog.info? 3).map (fun i => (i.zero, i.size, i.bytes)) = some (some (.int .i64 0), 1, 8) := by kernel_rfl

/-- A row of cells from a known address on: the address, written out, where there is one cell at least. -/
theorem row_at {w : World} {x : Addr} {k : IntKind} {len : Nat} {zs : List Int} (h : ∀ i, i < len → w.cell? (x.add i) = some (.int k (zs.getD i 0))) (hp : 0 < len) :
    ∃ b off, x = ⟨b, off, none⟩ ∧ ∀ j, j < len → w.cell? ⟨b, off + j, none⟩ = some (.int k (zs.getD j 0)) := by
  obtain ⟨b, off, spot⟩ := x
  have hspot : spot = none := by simpa [Addr.add] using World.cell?_spot (h 0 hp)
  subst hspot
  refine ⟨b, off, rfl, fun j hj => ?_⟩
  have e : (⟨b, off, none⟩ : Addr).add j = ⟨b, off + j, none⟩ := by
    unfold Addr.add
    split <;> simp_all
  rw [← e]
  exact h j hj

/-- The round's step on the row that is being filled. -/
theorem fill_step {k : IntKind} {C : Array Value} {n len : Nat} {zs : List Int} (hs : C.size = len) (hn : n < len) (h : ∀ i, i < n → C[i]? = some (.int k (zs.getD i 0))) :
    (C.setIfInBounds n (.int k (zs.getD n 0))).size = len ∧ ∀ i, i < n + 1 → (C.setIfInBounds n (.int k (zs.getD n 0)))[i]? = some (.int k (zs.getD i 0)) := by
  refine ⟨by simp [hs], fun i hi => ?_⟩
  rw [Array.getElem?_setIfInBounds]
  by_cases e : n = i
  · subst e
    rw [if_pos rfl, if_pos (by omega)]
  · rw [if_neg e]
    exact h i (by omega)

set_option maxHeartbeats 400000 in
theorem copyBytes_row (x : Addr) (len cap : Nat) (zs : List Int) (w : World) (hl : len ≤ 1048576) (hc : ∀ i, i < len → w.cell? (x.add i) = some (.int .u8 (zs.getD i 0))) :
    Calls Try.prog 14 #[.slice (some x) len cap] w fun e w' => e = .returned (.slice (some ⟨w.heap.size, 0, none⟩) len len) ∧
      ∃ C : Array Value, w' = w.alloc (.cells C 5) ∧ C.size = len ∧ ∀ i, i < len → C[i]? = some (.int .u8 (zs.getD i 0)) := by
  have he := fun wx => Lib.run_eql_slice_nil (P := Try.prog) wx 31 5 (some x) len cap 0 0 Try.underlying31
  have hmk := fun wx => run_make_row' (P := Try.prog) 31 5 (.int .u8 0) 1 Try.underlying31 info5 rfl .i64 .i64 len (by omega) (by omega) wx
  have hz : (madeCells #[Value.int .u8 0] len).size = len := size_madeCells _ _
  generalize madeCells #[Value.int .u8 0] len = C0 at hmk hz
  have HZ : Hid (C0.size = len) := hz
  clear hz
  by_cases h0 : len = 0
  · have h1 : ¬ (0 : Int) < (len : Int) := by omega
    clear h0
    go_enter Try.func14, Try.ntmps14
    go_wp2
    go_loop [4] (fun i => i = .int .i64 0) (fun _ => 0)
    case atStart => rfl
    case round =>
      subst hrel
      go_wp2
      go_ret
      exact ⟨rfl, C0, rfl, HZ.out, fun i hi => absurd hi (by omega)⟩
  · obtain ⟨b, off, rfl, hcell⟩ := row_at hc (by omega)
    have hb : b < w.heap.size := World.block_lt_of_cell? _ _ (hcell 0 (by omega))
    clear hc
    go_enter Try.func14, Try.ntmps14
    go_wp2
    clear hmk he
    go_loopw [4] (fun i wr => ∃ (k : Nat) (C : Array Value), k ≤ len ∧ i = .int .i64 k ∧ wr = w.alloc (.cells C 5) ∧ C.size = len ∧ ∀ j, j < k → C[j]? = some (.int .u8 (zs.getD j 0))) (fun i _ => len - (intOf i).toNat)
    case atStart => exact ⟨0, C0, Nat.zero_le _, rfl, rfl, HZ.out, fun j hj => by omega⟩
    case round =>
      obtain ⟨k, C, hk, rfl, rfl, hC, hj⟩ := hrel
      clear HZ
      by_cases hlt : k < len
      · have HS : Hid _ := fill_step hC hlt hj
        have hck := hcell k hlt
        have hkC : k < C.size := by omega
        have HC : Hid (C.size = len) := hC
        clear hj hcell hC
        go_wp2
        go_roundw
        case rel => exact ⟨k + 1, _, by omega, by go_num, rfl, HS.out.1, HS.out.2⟩
        case measure => simp [intOf]; omega
      · have HC : Hid (C.size = len) := hC
        have HJ : Hid (∀ j, j < k → C[j]? = some (.int .u8 (zs.getD j 0))) := hj
        clear hj hcell hC
        go_wp2
        go_ret
        exact ⟨rfl, C, rfl, HC.out, fun i hi => HJ.out i (by omega)⟩
set_option maxHeartbeats 400000 in
theorem copyInts_row (x : Addr) (len cap : Nat) (zs : List Int) (w : World) (hl : len ≤ 1048576) (hc : ∀ i, i < len → w.cell? (x.add i) = some (.int .i64 (zs.getD i 0))) :
    Calls Try.prog 15 #[.slice (some x) len cap] w fun e w' => e = .returned (.slice (some ⟨w.heap.size, 0, none⟩) len len) ∧
      ∃ C : Array Value, w' = w.alloc (.cells C 2) ∧ C.size = len ∧ ∀ i, i < len → C[i]? = some (.int .i64 (zs.getD i 0)) := by
  have he := fun wx => Lib.run_eql_slice_nil (P := Try.prog) wx 32 2 (some x) len cap 0 0 Try.underlying32
  have hmk := fun wx => run_make_row' (P := Try.prog) 32 2 (.int .i64 0) 8 Try.underlying32 info2 rfl .i64 .i64 len (by omega) (by omega) wx
  have hz : (madeCells #[Value.int .i64 0] len).size = len := size_madeCells _ _
  generalize madeCells #[Value.int .i64 0] len = C0 at hmk hz
  have HZ : Hid (C0.size = len) := hz
  clear hz
  by_cases h0 : len = 0
  · have h1 : ¬ (0 : Int) < (len : Int) := by omega
    clear h0
    go_enter Try.func15, Try.ntmps15
    go_wp2
    go_loop [4] (fun i => i = .int .i64 0) (fun _ => 0)
    case atStart => rfl
    case round =>
      subst hrel
      go_wp2
      go_ret
      exact ⟨rfl, C0, rfl, HZ.out, fun i hi => absurd hi (by omega)⟩
  · obtain ⟨b, off, rfl, hcell⟩ := row_at hc (by omega)
    have hb : b < w.heap.size := World.block_lt_of_cell? _ _ (hcell 0 (by omega))
    clear hc
    go_enter Try.func15, Try.ntmps15
    go_wp2
    clear hmk he
    go_loopw [4] (fun i wr => ∃ (k : Nat) (C : Array Value), k ≤ len ∧ i = .int .i64 k ∧ wr = w.alloc (.cells C 2) ∧ C.size = len ∧ ∀ j, j < k → C[j]? = some (.int .i64 (zs.getD j 0))) (fun i _ => len - (intOf i).toNat)
    case atStart => exact ⟨0, C0, Nat.zero_le _, rfl, rfl, HZ.out, fun j hj => by omega⟩
    case round =>
      obtain ⟨k, C, hk, rfl, rfl, hC, hj⟩ := hrel
      clear HZ
      by_cases hlt : k < len
      · have HS : Hid _ := fill_step hC hlt hj
        have hck := hcell k hlt
        have hkC : k < C.size := by omega
        have HC : Hid (C.size = len) := hC
        clear hj hcell hC
        go_wp2
        go_roundw
        case rel => exact ⟨k + 1, _, by omega, by go_num, rfl, HS.out.1, HS.out.2⟩
        case measure => simp [intOf]; omega
      · have HC : Hid (C.size = len) := hC
        have HJ : Hid (∀ j, j < k → C[j]? = some (.int .i64 (zs.getD j 0))) := hj
        clear hj hcell hC
        go_wp2
        go_ret
        exact ⟨rfl, C, rfl, HC.out, fun i hi => HJ.out i (by omega)⟩

set_option maxHeartbeats 400000 in
theorem copyBytes_nil (w : World) :
    Calls Try.prog 14 #[.slice none 0 0] w fun e w' => e = .returned (.slice none 0 0) ∧ w' = w := by
  have he := fun wx => Lib.run_eql_slice_nil (P := Try.prog) wx 31 5 none 0 0 0 0 Try.underlying31
  go_enter Try.func14, Try.ntmps14
  go_wp2
  go_ret
  exact ⟨rfl, rfl⟩

set_option maxHeartbeats 400000 in
theorem copyInts_nil (w : World) :
    Calls Try.prog 15 #[.slice none 0 0] w fun e w' => e = .returned (.slice none 0 0) ∧ w' = w := by
  have he := fun wx => Lib.run_eql_slice_nil (P := Try.prog) wx 32 2 none 0 0 0 0 Try.underlying32
  go_enter Try.func15, Try.ntmps15
  go_wp2
  go_ret
  exact ⟨rfl, rfl⟩

end Go.Proofs.Qxb6600300a
