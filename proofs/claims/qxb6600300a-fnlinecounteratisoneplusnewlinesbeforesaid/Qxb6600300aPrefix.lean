/-
  The contract of newlinePrefix: a new table whose cell i holds the number of newlines among the first i bytes.
-/
import Derived.Test.Qxb6600300aCopies
namespace Go.Proofs.Qxb6600300a
open Go.RowKit

theorem byte_ten (x : Int) (h0 : 0 ≤ x) (h1 : x ≤ 255) : (x.toNat.toUInt8 == (10 : UInt8)) = decide (x = 10) := by
  obtain ⟨n, rfl⟩ := Int.eq_ofNat_of_zero_le h0
  have hn : n < 256 := by omega
  have key : ∀ m : Fin 256, ((m.val : Int).toNat.toUInt8 == (10 : UInt8)) = decide ((m.val : Int) = 10) := by decide +kernel
  exact key ⟨n, hn⟩

theorem nl_step (zs : List Int) (k : Nat) (hk : k < zs.length) (h0 : 0 ≤ zs.getD k 0) (h1 : zs.getD k 0 ≤ 255) :
    nl zs (k + 1) = nl zs k + if zs.getD k 0 = 10 then 1 else 0 := by
  rw [nl_add zs k (k + 1) (by omega)]
  have e : (zs.drop k).take (k + 1 - k) = [zs.getD k 0] := by
    rw [show k + 1 - k = 1 from by omega, List.drop_eq_getElem_cons hk, List.take_succ_cons, List.take_zero, List.getD_eq_getElem?_getD, List.getElem?_eq_getElem hk]
    rfl
  rw [e]
  have b := byte_ten (zs.getD k 0) h0 h1
  unfold Lib.countByte Lib.bytesOf
  rw [List.map_cons, List.map_nil, List.count_singleton, b]
  by_cases h : zs.getD k 0 = 10
  · rw [if_pos h, if_pos (decide_eq_true h)]
  · rw [if_neg h, if_neg (by rw [decide_eq_true_eq]; exact h)]

theorem made_zero (z : Value) (n i : Nat) (h : i < n) : (madeCells #[z] n)[i]? = some z := by
  simp [madeCells, h, Nat.mod_one]

/-- The round's step on the table. -/
theorem table_step {T : Array Value} {n len : Nat} {zs : List Int} (hs : T.size = len + 1) (hn : n < len) (h : ∀ i, i < n + 1 → T[i]? = some (.int .i64 (nl zs i))) :
    (T.setIfInBounds (n + 1) (.int .i64 (nl zs (n + 1)))).size = len + 1 ∧ ∀ i, i < n + 1 + 1 → (T.setIfInBounds (n + 1) (.int .i64 (nl zs (n + 1))))[i]? = some (.int .i64 (nl zs i)) := by
  refine ⟨by simp [hs], fun i hi => ?_⟩
  rw [Array.getElem?_setIfInBounds]
  by_cases e : n + 1 = i
  · subst e
    rw [if_pos rfl, if_pos (by omega)]
  · rw [if_neg e]
    exact h i (by omega)

set_option maxHeartbeats 1000000 in
theorem table_any (B : Nat) (a : Option Addr) (len : Nat) (zs : List Int) (w : World) (hl : len ≤ 1048576) (hz : len ≤ zs.length) (hr : ∀ i, i < len → 0 ≤ zs.getD i 0 ∧ zs.getD i 0 ≤ 255)
    (hB : B ≤ w.heap.size) (hH : Holds B .u8 w a len zs) :
    Calls Try.prog 16 #[.slice a len len] w fun e w' => e = .returned (.slice (some ⟨w.heap.size, 0, none⟩) (len + 1) (len + 1)) ∧
      ∃ T : Array Value, w' = w.alloc (.cells T 3) ∧ T.size = len + 1 ∧ ∀ i, i < len + 1 → T[i]? = some (.int .i64 (nl zs i)) := by
  have hmk := fun wx => run_make_row' (P := Try.prog) 36 3 (.int .i64 0) 8 Try.underlying36 info3 rfl .i64 .i64 (len + 1) (by omega) (by omega) wx
  have ec : ((len + 1 : Nat) : Int) = (len : Int) + 1 := by omega
  rw [ec] at hmk
  clear ec
  have hz1 : (madeCells #[Value.int .i64 0] (len + 1)).size = len + 1 := size_madeCells _ _
  have hz2 : (madeCells #[Value.int .i64 0] (len + 1))[0]? = some (.int .i64 0) := made_zero _ _ _ (by omega)
  generalize madeCells #[Value.int .i64 0] (len + 1) = T0 at hmk hz1 hz2
  have HZ1 : Hid (T0.size = len + 1) := hz1
  have HZ2 : Hid (T0[0]? = some (.int .i64 0)) := hz2
  have HR : Hid (∀ i, i < len → 0 ≤ zs.getD i 0 ∧ zs.getD i 0 ≤ 255) := hr
  clear hz1 hz2 hr
  go_enter Try.func16, Try.ntmps16
  go_wp2
  clear hmk
  go_loopw [4] (fun i wr => ∃ (k : Nat) (T : Array Value), k ≤ len ∧ i = .int .i64 k ∧ wr = w.alloc (.cells T 3) ∧ T.size = len + 1 ∧ ∀ j, j < k + 1 → T[j]? = some (.int .i64 (nl zs j))) (fun i _ => len - (intOf i).toNat)
  case atStart => exact ⟨0, T0, Nat.zero_le _, rfl, rfl, HZ1.out, fun j hj => by obtain rfl : j = 0 := (by omega); exact HZ2.out⟩
  case round =>
    obtain ⟨k, T, hk, rfl, rfl, hT, hj⟩ := hrel
    clear HZ1 HZ2
    by_cases hlt : k < len
    · rcases hH with ⟨rfl, h0⟩ | ⟨g, rfl, hg, hc⟩
      · omega
      · have hstep := table_step hT hlt hj
        have hnl := nl_step zs k (by omega) (HR.out k hlt).1 (HR.out k hlt).2
        have hle := nl_le zs k
        have hck := hc k hlt
        have hgw : g < w.heap.size := by omega
        have hTk := hj k (by omega)
        have hkT : k + 1 < T.size := by omega
        have HT : Hid (T.size = len + 1) := hT
        clear hj hT hc
        obtain ⟨x, hx⟩ : ∃ x, x = zs.getD k 0 := ⟨_, rfl⟩
        rw [← hx] at hck hnl
        clear hx
        by_cases hten : x = 10
        · rw [if_pos hten] at hnl
          rw [hnl] at hstep
          have HS : Hid _ := hstep
          clear hstep hnl
          subst hten
          go_wp2
          go_roundw
          case rel => exact ⟨k + 1, _, by omega, by go_num, rfl, HS.out.1, HS.out.2⟩
          case measure => simp [intOf]; omega
        · rw [if_neg hten, Nat.add_zero] at hnl
          rw [hnl] at hstep
          have HS : Hid _ := hstep
          have hb : (x == 10) = false := beq_eq_false_iff_ne.2 hten
          clear hstep hnl hten
          go_wp2
          go_roundw
          case rel => exact ⟨k + 1, _, by omega, by go_num, rfl, HS.out.1, HS.out.2⟩
          case measure => simp [intOf]; omega
    · have HT : Hid (T.size = len + 1) := hT
      have HJ : Hid (∀ j, j < k + 1 → T[j]? = some (.int .i64 (nl zs j))) := hj
      clear hj hT
      go_wp2
      go_ret
      exact ⟨rfl, T, rfl, HT.out, fun i hi => HJ.out i (by omega)⟩

end Go.Proofs.Qxb6600300a
