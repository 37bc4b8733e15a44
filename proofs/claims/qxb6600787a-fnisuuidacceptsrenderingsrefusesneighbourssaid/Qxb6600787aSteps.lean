/-
  The contracts: strings.IndexByte, isUUID, ZZIsUUID, uuidIsHex, uuidHexDigit.
-/
import Derived.Test.Qxb6600787aRows
import Derived.WalkKit
import Derived.WalkSpells
import Derived.Lib.Bytealg
import Derived.Test.Qxb6600787aPlain
namespace Go.Proofs.Qxb6600787a
open Go.RowKit

set_option maxHeartbeats 1000000 in
set_option maxRecDepth 100000 in
theorem slite_IndexByte (s : ByteArray) (c : Int) (w : World) :
    Calls Try.prog 23 #[.string s, .int .u8 c] w fun e w' => e = .returned (.int .i64 (Lib.indexByte s.data.toList c.toNat.toUInt8)) ∧ w' = w := by
  go_enter Try.func23, Try.ntmps23
  go_wp2
  rw [run_callFunc_extern Try.func24 (by kernel_rfl) (by kernel_rfl) (by kernel_rfl) (e := Extern.BytealgIndexByte.indexByte) (by kernel_rfl), Lib.run_indexByteString]
  simp only [Result.andThen]
  rw [Oper.upon_value]
  go_wp2
  go_ret
  exact ⟨rfl, rfl⟩

set_option maxHeartbeats 1000000 in
theorem str_IndexByte (s : ByteArray) (c : Int) (w : World) :
    Calls Try.prog 22 #[.string s, .int .u8 c] w fun e w' => e = .returned (.int .i64 (Lib.indexByte s.data.toList c.toNat.toUInt8)) ∧ w' = w := by
  go_enter Try.func22, Try.ntmps22
  go_wp2_with (go_at_call 23; refine (slite_IndexByte _ _ _).mono ?_; rintro e w' ⟨rfl, rfl⟩)
  go_ret
  exact ⟨rfl, rfl⟩

/-- strings.IndexByte at the hex digits: its answer under one name. -/
theorem hex_call (c : Int) (w : World) :
    Calls Try.prog 22 #[.string ⟨#[48, 49, 50, 51, 52, 53, 54, 55, 56, 57, 97, 98, 99, 100, 101, 102, 65, 66, 67, 68, 69, 70]⟩, .int .u8 c] w fun e w' => e = .returned (.int .i64 (hexI c)) ∧ w' = w :=
  str_IndexByte _ c w

theorem ret_bool {a b : Bool} (h : a = b) : Ending.returned (.bool a) = .returned (.bool b) := by rw [h]

set_option maxHeartbeats 2000000 in
theorem isUUID (s : ByteArray) (w : World) (hs : s.size ≤ 1048576) :
    Calls Try.prog 18 #[.string s] w fun e w' => e = .returned (.bool (uuidB s)) ∧ w' = w := by
  by_cases h36 : s.size = 36
  · have hsz : (s.size : Int) = 36 := by omega
    have HSZ : Hid (s.size = 36) := h36
    have h1 : ((s.size : Int) != 36) = false := by rw [hsz]; decide
    have hle : s.size ≤ 36 := by omega
    have hge : 36 ≤ s.size := by omega
    clear h36 hsz
    go_enter Try.func18, Try.ntmps18
    go_wp2
    go_loop [3] (fun i => ∃ k : Nat, k ≤ 36 ∧ i = .int .i64 k ∧ ∀ j, j < k → okAt j (byteAt s j) = true) (fun i => 36 - (intOf i).toNat)
    case atStart => exact ⟨0, Nat.zero_le _, rfl, fun j hj => by omega⟩
    case round =>
      obtain ⟨k, hk, rfl, hok⟩ := hrel
      have HOK : Hid (∀ j, j < k → okAt j (byteAt s j) = true) := hok
      clear hok
      by_cases hlt : k < 36
      · have hks : k < s.size := by omega
        have hbe := byteAt_eq s k hks
        have HNEXT : Hid (okAt k (byteAt s k) = true → ∀ j, j < k + 1 → okAt j (byteAt s j) = true) := fun h j hj => by
          by_cases e : j = k
          · rw [e]; exact h
          · exact HOK.out j (by omega)
        have HBAD : Hid (okAt k (byteAt s k) = false → uuidB s = false) := fun h => uuid_bad s k hlt h
        rw [hbe] at HNEXT HBAD
        clear hbe HOK
        cases hd : dash k with
        | true =>
          have h45 : okAt k (s[k].toNat : Int) = ((s[k].toNat : Int) == 45) := ok_dash hd
          rw [h45] at HNEXT HBAD
          clear h45
          have hcase : k = 8 ∨ k = 13 ∨ k = 18 ∨ k = 23 := by unfold dash at hd; simp at hd; omega
          clear hd
          by_cases hc : (s[k].toNat : Int) = 45
          · have hb : ((s[k].toNat : Int) != 45) = false := by rw [hc]; decide
            have HN : Hid (∀ j, j < k + 1 → okAt j (byteAt s j) = true) := HNEXT.out (beq_iff_eq.2 hc)
            clear hc HNEXT HBAD
            rcases hcase with h | h | h | h
            · have t8 : ((k : Int) == 8) = true := beq_iff_eq.2 (by omega)
              clear h
              go_wp2_with fail
              go_round
              case rel => exact ⟨k + 1, by omega, by go_num, HN.out⟩
              case measure => simp [intOf]; omega
            · have t8 : ((k : Int) == 8) = false := beq_eq_false_iff_ne.2 (by omega)
              have t13 : ((k : Int) == 13) = true := beq_iff_eq.2 (by omega)
              clear h
              go_wp2_with fail
              go_round
              case rel => exact ⟨k + 1, by omega, by go_num, HN.out⟩
              case measure => simp [intOf]; omega
            · have t8 : ((k : Int) == 8) = false := beq_eq_false_iff_ne.2 (by omega)
              have t13 : ((k : Int) == 13) = false := beq_eq_false_iff_ne.2 (by omega)
              have t18 : ((k : Int) == 18) = true := beq_iff_eq.2 (by omega)
              clear h
              go_wp2_with fail
              go_round
              case rel => exact ⟨k + 1, by omega, by go_num, HN.out⟩
              case measure => simp [intOf]; omega
            · have t8 : ((k : Int) == 8) = false := beq_eq_false_iff_ne.2 (by omega)
              have t13 : ((k : Int) == 13) = false := beq_eq_false_iff_ne.2 (by omega)
              have t18 : ((k : Int) == 18) = false := beq_eq_false_iff_ne.2 (by omega)
              have t23 : ((k : Int) == 23) = true := beq_iff_eq.2 (by omega)
              clear h
              go_wp2_with fail
              go_round
              case rel => exact ⟨k + 1, by omega, by go_num, HN.out⟩
              case measure => simp [intOf]; omega
          · have hb : ((s[k].toNat : Int) != 45) = true := by rw [bne_iff_ne]; exact hc
            have HF : Hid (uuidB s = false) := HBAD.out (beq_eq_false_iff_ne.2 hc)
            clear hc HNEXT HBAD
            rcases hcase with h | h | h | h
            · have t8 : ((k : Int) == 8) = true := beq_iff_eq.2 (by omega)
              clear h
              go_wp2_with fail
              go_ret
              exact ⟨ret_bool HF.out.symm, rfl⟩
            · have t8 : ((k : Int) == 8) = false := beq_eq_false_iff_ne.2 (by omega)
              have t13 : ((k : Int) == 13) = true := beq_iff_eq.2 (by omega)
              clear h
              go_wp2_with fail
              go_ret
              exact ⟨ret_bool HF.out.symm, rfl⟩
            · have t8 : ((k : Int) == 8) = false := beq_eq_false_iff_ne.2 (by omega)
              have t13 : ((k : Int) == 13) = false := beq_eq_false_iff_ne.2 (by omega)
              have t18 : ((k : Int) == 18) = true := beq_iff_eq.2 (by omega)
              clear h
              go_wp2_with fail
              go_ret
              exact ⟨ret_bool HF.out.symm, rfl⟩
            · have t8 : ((k : Int) == 8) = false := beq_eq_false_iff_ne.2 (by omega)
              have t13 : ((k : Int) == 13) = false := beq_eq_false_iff_ne.2 (by omega)
              have t18 : ((k : Int) == 18) = false := beq_eq_false_iff_ne.2 (by omega)
              have t23 : ((k : Int) == 23) = true := beq_iff_eq.2 (by omega)
              clear h
              go_wp2_with fail
              go_ret
              exact ⟨ret_bool HF.out.symm, rfl⟩
        | false =>
          have hx : okAt k (s[k].toNat : Int) = hexN (s[k].toNat : Int) := ok_hex hd
          rw [hx] at HNEXT HBAD
          obtain ⟨n1, n2, n3, n4⟩ := dash_ne hd
          have t8 : ((k : Int) == 8) = false := beq_eq_false_iff_ne.2 (by omega)
          have t13 : ((k : Int) == 13) = false := beq_eq_false_iff_ne.2 (by omega)
          have t18 : ((k : Int) == 18) = false := beq_eq_false_iff_ne.2 (by omega)
          have t23 : ((k : Int) == 23) = false := beq_eq_false_iff_ne.2 (by omega)
          clear hx hd n1 n2 n3 n4
          by_cases hc : 0 ≤ hexI (s[k].toNat : Int)
          · have HN : Hid (∀ j, j < k + 1 → okAt j (byteAt s j) = true) := HNEXT.out (decide_eq_true hc)
            clear HNEXT HBAD
            go_wp2_with (go_at_call 22; refine (hex_call _ _).mono ?_; rintro e w' ⟨rfl, rfl⟩)
            go_round
            case rel => exact ⟨k + 1, by omega, by go_num, HN.out⟩
            case measure => simp [intOf]; omega
          · have HF : Hid (uuidB s = false) := HBAD.out (decide_eq_false hc)
            clear HNEXT HBAD
            go_wp2_with (go_at_call 22; refine (hex_call _ _).mono ?_; rintro e w' ⟨rfl, rfl⟩)
            go_ret
            exact ⟨ret_bool HF.out.symm, rfl⟩
      · have HT : Hid (uuidB s = true) := (uuid_iff s).2 ⟨HSZ.out, fun i hi => HOK.out i (by omega)⟩
        go_wp2_with fail
        go_ret
        exact ⟨ret_bool HT.out.symm, rfl⟩
  · have HF : Hid (uuidB s = false) := uuid_size s h36
    have h1 : ((s.size : Int) != 36) = true := by rw [bne_iff_ne]; omega
    clear h36
    go_enter Try.func18, Try.ntmps18
    go_wp2_with fail
    go_ret
    exact ⟨ret_bool HF.out.symm, rfl⟩

set_option maxHeartbeats 400000 in
theorem zzIsUUID (s : ByteArray) (w : World) (hs : s.size ≤ 1048576) :
    Calls Try.prog 9 #[.string s] w fun e w' => e = .returned (.bool (uuidB s)) ∧ w' = w := by
  go_enter Try.func9, Try.ntmps9
  go_wp2_with (go_at_call 18; refine (isUUID _ _ hs).mono ?_; rintro e w' ⟨rfl, rfl⟩)
  go_ret
  exact ⟨rfl, rfl⟩

set_option maxHeartbeats 2000000 in
theorem isHex (c : Int) (w : World) (h0 : 0 ≤ c) (h1 : c ≤ 255) :
    Calls Try.prog 14 #[.int .u8 c] w fun e w' => e = .returned (.bool (hexN c)) ∧ w' = w := by
  have hx := hex_cases c h0 h1
  have hc : (48 ≤ c ∧ c ≤ 57) ∨ (97 ≤ c ∧ c ≤ 102) ∨ (65 ≤ c ∧ c ≤ 70) ∨ c < 48 ∨ (57 < c ∧ c < 65) ∨ (70 < c ∧ c < 97) ∨ 102 < c := by omega
  rcases hc with h | h | h | h | h | h | h
  · have HX : Hid (hexN c = true) := by show hexN c = true; rw [hx]; exact decide_eq_true (by omega)
    obtain ⟨g1, g2⟩ := h
    clear hx
    go_enter Try.func14, Try.ntmps14
    go_wp2_with fail
    go_ret
    exact ⟨ret_bool HX.out.symm, rfl⟩
  · have HX : Hid (hexN c = true) := by show hexN c = true; rw [hx]; exact decide_eq_true (by omega)
    obtain ⟨g1, g2⟩ := h
    clear hx
    go_enter Try.func14, Try.ntmps14
    go_wp2_with fail
    go_ret
    exact ⟨ret_bool HX.out.symm, rfl⟩
  · have HX : Hid (hexN c = true) := by show hexN c = true; rw [hx]; exact decide_eq_true (by omega)
    obtain ⟨g1, g2⟩ := h
    clear hx
    go_enter Try.func14, Try.ntmps14
    go_wp2_with fail
    go_ret
    exact ⟨ret_bool HX.out.symm, rfl⟩
  · have HX : Hid (hexN c = false) := by show hexN c = false; rw [hx]; exact decide_eq_false (by omega)
    clear hx
    go_enter Try.func14, Try.ntmps14
    go_wp2_with fail
    go_ret
    exact ⟨ret_bool HX.out.symm, rfl⟩
  · have HX : Hid (hexN c = false) := by show hexN c = false; rw [hx]; exact decide_eq_false (by omega)
    obtain ⟨g1, g2⟩ := h
    clear hx
    go_enter Try.func14, Try.ntmps14
    go_wp2_with fail
    go_ret
    exact ⟨ret_bool (by rw [HX.out]; simp; omega), rfl⟩
  · have HX : Hid (hexN c = false) := by show hexN c = false; rw [hx]; exact decide_eq_false (by omega)
    obtain ⟨g1, g2⟩ := h
    clear hx
    go_enter Try.func14, Try.ntmps14
    go_wp2_with fail
    go_ret
    exact ⟨ret_bool (by rw [HX.out]; simp; omega), rfl⟩
  · have HX : Hid (hexN c = false) := by show hexN c = false; rw [hx]; exact decide_eq_false (by omega)
    clear hx
    go_enter Try.func14, Try.ntmps14
    go_wp2_with fail
    go_ret
    exact ⟨ret_bool (by rw [HX.out]; simp; omega), rfl⟩

/-- What uuidHexDigit leaves: some hex digit. -/
def HexPost (w : World) (e : Ending) (w' : World) : Prop := (∃ x : Int, e = .returned (.int .u8 x) ∧ 0 ≤ x ∧ x ≤ 255 ∧ hexN x = true) ∧ w' = w

theorem HexPost.mk {w : World} {x : Int} (h : (48 ≤ x ∧ x ≤ 57) ∨ (97 ≤ x ∧ x ≤ 102) ∨ (65 ≤ x ∧ x ≤ 70)) : HexPost w (.returned (.int .u8 x)) w :=
  ⟨⟨x, rfl, by omega, by omega, by rw [hex_cases x (by omega) (by omega)]; exact decide_eq_true h⟩, rfl⟩

set_option maxHeartbeats 1000000 in
theorem hexDigit (v : Int) (up : Bool) (w : World) (h0 : 0 ≤ v) (h1 : v ≤ 15) :
    Calls Try.prog 20 #[.int .u8 v, .bool up] w fun e w' => HexPost w e w' := by
  by_cases hv : v < 10
  · go_enter Try.func20, Try.ntmps20
    go_wp2_with fail
    go_ret
    exact HexPost.mk (x := 48 + v) (by omega)
  · cases up
    · go_enter Try.func20, Try.ntmps20
      go_wp2_with fail
      go_ret
      exact HexPost.mk (x := 97 + v - 10) (by omega)
    · go_enter Try.func20, Try.ntmps20
      go_wp2_with fail
      go_ret
      exact HexPost.mk (x := 65 + v - 10) (by omega)

end Go.Proofs.Qxb6600787a
