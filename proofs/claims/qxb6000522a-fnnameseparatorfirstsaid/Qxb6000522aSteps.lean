/-
  The contracts of the functions that both laws go through: strings.IndexByte, separatesNames, nameSeparator, ZZNameSeparator.
-/
import Derived.Test.Qxb6000522aRows
import Derived.WalkKit
import Derived.WalkSpells
import Derived.Lib.Bytealg
import Derived.Test.Qxb6000522aPlain
namespace Go.Proofs.Qxb6000522a
open Go.RowKit

set_option maxHeartbeats 1000000 in
set_option maxRecDepth 100000 in
theorem slite_IndexByte (s : ByteArray) (c : Int) (w : World) :
    Calls Try.prog 23 #[.string s, .int .u8 c] w fun e w' => e = .returned (.int .i64 (Lib.indexByte s.data.toList c.toNat.toUInt8)) ∧ w' = w := by
  go_enter Try.func23, Try.ntmps23
  go_wp2
  rw [run_callFunc_extern Try.func24 (by kernel_rfl) (by kernel_rfl) (by kernel_rfl) (e := Extern.BytealgIndexByte.indexByte) (by kernel_rfl), Lib.run_indexByteString]
  simp only [Result.andThen]
  rw [Oper.upon_value]
  go_wp2
  go_ret
  exact ⟨rfl, rfl⟩

set_option maxHeartbeats 1000000 in
theorem str_IndexByte (s : ByteArray) (c : Int) (w : World) :
    Calls Try.prog 21 #[.string s, .int .u8 c] w fun e w' => e = .returned (.int .i64 (Lib.indexByte s.data.toList c.toNat.toUInt8)) ∧ w' = w := by
  go_enter Try.func21, Try.ntmps21
  go_wp2_with (go_at_call 23; refine (slite_IndexByte _ _ _).mono ?_; rintro e w' ⟨rfl, rfl⟩)
  go_ret
  exact ⟨rfl, rfl⟩

theorem ret_bool {a b : Bool} (h : a = b) : Ending.returned (.bool a) = .returned (.bool b) := by rw [h]
theorem ret_int {k : IntKind} {a b : Int} (h : a = b) : Ending.returned (.int k a) = .returned (.int k b) := by rw [h]

set_option maxHeartbeats 400000 in
theorem separates (s : ByteArray) (k : Nat) (w : World) (hs : s.size ≤ 1048576) (hk : k < s.size) :
    Calls Try.prog 22 #[.string s, .int .i64 k] w fun e w' => e = .returned (.bool (sepB s k)) ∧ w' = w := by
  by_cases h1 : (s[k].toNat : Int) = 58
  · by_cases h2 : k + 1 < s.size
    · have HS : Hid (sepB s k = isForm s[k + 1]) := by
        show sepB s k = isForm s[k + 1]
        unfold sepB
        rw [dif_pos h2, show ((s[k].toNat : Int) == 58) = true from beq_iff_eq.2 h1, Bool.true_and]
      have hb : ((s[k].toNat : Int) == 58) = true := beq_iff_eq.2 h1
      clear h1
      go_enter Try.func22, Try.ntmps22
      go_wp2_with (go_at_call 21; refine (str_IndexByte _ _ _).mono ?_; rintro e w' ⟨rfl, rfl⟩)
      go_ret
      exact ⟨ret_bool (by rw [HS.out]; rfl), rfl⟩
    · have HS : Hid (sepB s k = false) := by
        show sepB s k = false
        unfold sepB
        rw [dif_neg h2]
      have hb : ((s[k].toNat : Int) == 58) = true := beq_iff_eq.2 h1
      clear h1
      go_enter Try.func22, Try.ntmps22
      go_wp2_with (go_at_call 21; refine (str_IndexByte _ _ _).mono ?_; rintro e w' ⟨rfl, rfl⟩)
      go_ret
      exact ⟨ret_bool (by rw [HS.out]), rfl⟩
  · have hb : ((s[k].toNat : Int) == 58) = false := beq_eq_false_iff_ne.2 h1
    have HS : Hid (sepB s k = false) := by
      show sepB s k = false
      unfold sepB
      split
      · rw [hb]; rfl
      · rfl
    clear h1
    go_enter Try.func22, Try.ntmps22
    go_wp2_with (go_at_call 21; refine (str_IndexByte _ _ _).mono ?_; rintro e w' ⟨rfl, rfl⟩)
    go_ret
    exact ⟨ret_bool (by rw [HS.out]), rfl⟩

set_option maxHeartbeats 400000 in
/-- nameSeparator at a start that is not behind the end. -/
theorem nameSep (s : ByteArray) (f : Int) (w : World) (hs : s.size ≤ 1048576) (h0 : 0 ≤ f) (h1 : f ≤ 9223372036854775807) :
    Calls Try.prog 19 #[.string s, .int .i64 f] w fun e w' => e = .returned (.int .i64 (nsep s f.toNat)) ∧ w' = w := by
  by_cases hf : f < s.size
  · obtain ⟨n, rfl⟩ := Int.eq_ofNat_of_zero_le h0
    rw [Int.toNat_natCast]
    clear h0 h1
    have hn : n < s.size := by omega
    go_enter Try.func19, Try.ntmps19
    go_wp2
    go_loop [5] (fun i => ∃ k : Nat, n ≤ k ∧ k ≤ s.size ∧ i = .int .i64 k ∧ nsep s k = nsep s n) (fun i => s.size - (intOf i).toNat)
    case atStart => exact ⟨n, Nat.le_refl _, by omega, rfl, rfl⟩
    case round =>
      obtain ⟨k, hk1, hk2, rfl, hk3⟩ := hrel
      have H3 : Hid (nsep s k = nsep s n) := hk3
      clear hk3
      by_cases hlt : k < s.size
      · cases hb : sepB s k with
        | true =>
          have H4 : Hid (nsep s k = k) := nsep_hit s k hlt hb
          go_wp2_with (go_at_call 22; refine (separates _ _ _ hs hlt).mono ?_; rintro e w' ⟨rfl, rfl⟩)
          go_ret
          exact ⟨ret_int (by rw [← H3.out, H4.out]), rfl⟩
        | false =>
          have H4 : Hid (nsep s k = nsep s (k + 1)) := nsep_miss s k hlt hb
          go_wp2_with (go_at_call 22; refine (separates _ _ _ hs hlt).mono ?_; rintro e w' ⟨rfl, rfl⟩)
          go_round
          case rel => exact ⟨k + 1, by omega, by omega, by go_num, by rw [← H4.out, H3.out]⟩
          case measure => simp [intOf]; omega
      · have H4 : Hid (nsep s k = s.size) := nsep_ge s k (by omega)
        go_wp2
        go_ret
        exact ⟨ret_int (by rw [← H3.out, H4.out]), rfl⟩
  · have H4 : Hid (nsep s f.toNat = s.size) := nsep_ge s _ (by omega)
    go_enter Try.func19, Try.ntmps19
    go_wp2
    go_loop [5] (fun i => i = .int .i64 f) (fun _ => 0)
    case atStart => rfl
    case round =>
      subst hrel
      go_wp2
      go_ret
      exact ⟨ret_int (by rw [H4.out]), rfl⟩

set_option maxHeartbeats 400000 in
theorem zzNameSep (s : ByteArray) (f : Int) (w : World) (hs : s.size ≤ 1048576) (h0 : 0 ≤ f) (h1 : f ≤ 9223372036854775807) :
    Calls Try.prog 14 #[.string s, .int .i64 f] w fun e w' => e = .returned (.int .i64 (nsep s f.toNat)) ∧ w' = w := by
  go_enter Try.func14, Try.ntmps14
  go_wp2_with (go_at_call 19; refine (nameSep _ _ _ hs h0 h1).mono ?_; rintro e w' ⟨rfl, rfl⟩)
  go_ret
  exact ⟨rfl, rfl⟩

end Go.Proofs.Qxb6000522a
