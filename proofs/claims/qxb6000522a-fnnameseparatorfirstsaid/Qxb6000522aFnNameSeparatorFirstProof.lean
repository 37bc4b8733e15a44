/-
  The proof of 'Rows.FnNameSeparatorFirstSaid'. The frame is the guide's template; the contracts and the walk are typed for this function.
-/
import Derived.Test.Qxb6000522aRows
import Derived.WalkKit
import Derived.ProofKit
import Derived.OpenShut
import Derived.ShutString
import Derived.WalkSpells
import Derived.Test.Qxb6000522aSteps
namespace Go.Proofs.Qxb6000522a.fnNameSeparatorFirst
open Go.ChangeShapes Go.WideShapes Go.ChangeAt Go.RowKit
open Go.ChangeMaps (open_string shut_string)
set_option linter.unusedVariables false      -- a walk need not use every 'w<i>' (that an integer argument fits its kind)

theorem own : ownKnob Try.prog.godebug = none := by kernel_rfl

/-! ### THE CONTRACTS -/
set_option maxHeartbeats 1000000 in
theorem isNameForm (c : UInt8) (w : World) :
    Calls Try.prog 20 #[.int .u8 c.toNat] w fun e w' => e = .returned (.bool (isForm c)) ∧ w' = w := by
  have hc := form_cases c
  cases hb : isForm c with
  | true =>
    rw [hb] at hc
    rcases hc.1 rfl with h | h | h | h | h | h <;> clear hc hb
    all_goals
      generalize (c.toNat : Int) = x at h
      subst h
      go_enter Try.func20, Try.ntmps20
      go_wp2
      go_ret
      exact ⟨rfl, rfl⟩
  | false =>
    have hn : ¬ ((c.toNat : Int) = 88 ∨ (c.toNat : Int) = 79 ∨ (c.toNat : Int) = 69 ∨ (c.toNat : Int) = 68 ∨ (c.toNat : Int) = 85 ∨ (c.toNat : Int) = 73) := fun h => by
      rw [hc.2 h] at hb
      cases hb
    clear hc hb
    have h1 : ((c.toNat : Int) == 88) = false := beq_eq_false_iff_ne.2 (by omega)
    have h2 : ((c.toNat : Int) == 79) = false := beq_eq_false_iff_ne.2 (by omega)
    have h3 : ((c.toNat : Int) == 69) = false := beq_eq_false_iff_ne.2 (by omega)
    have h4 : ((c.toNat : Int) == 68) = false := beq_eq_false_iff_ne.2 (by omega)
    have h5 : ((c.toNat : Int) == 85) = false := beq_eq_false_iff_ne.2 (by omega)
    have h6 : ((c.toNat : Int) == 73) = false := beq_eq_false_iff_ne.2 (by omega)
    clear hn
    go_enter Try.func20, Try.ntmps20
    go_wp2
    go_ret
    exact ⟨rfl, rfl⟩

set_option maxHeartbeats 400000 in
theorem separatorAt (s : ByteArray) (k : Nat) (w : World) (hs : s.size ≤ 1048576) (hk : k < s.size) :
    Calls Try.prog 15 #[.string s, .int .i64 k] w fun e w' => e = .returned (.bool (sepB s k)) ∧ w' = w := by
  by_cases h1 : (s[k].toNat : Int) = 58
  · by_cases h2 : k + 1 < s.size
    · have HS : Hid (sepB s k = isForm s[k + 1]) := by
        show sepB s k = isForm s[k + 1]
        unfold sepB
        rw [dif_pos h2, show ((s[k].toNat : Int) == 58) = true from beq_iff_eq.2 h1, Bool.true_and]
      have hb : ((s[k].toNat : Int) == 58) = true := beq_iff_eq.2 h1
      clear h1
      go_enter Try.func15, Try.ntmps15
      go_wp2_with (go_at_call 20; refine (isNameForm _ _).mono ?_; rintro e w' ⟨rfl, rfl⟩)
      go_ret
      exact ⟨ret_bool (by rw [HS.out]), rfl⟩
    · have HS : Hid (sepB s k = false) := by
        show sepB s k = false
        unfold sepB
        rw [dif_neg h2]
      have hb : ((s[k].toNat : Int) == 58) = true := beq_iff_eq.2 h1
      clear h1
      go_enter Try.func15, Try.ntmps15
      go_wp2_with fail
      go_ret
      exact ⟨ret_bool (by rw [HS.out]), rfl⟩
  · have hb : ((s[k].toNat : Int) == 58) = false := beq_eq_false_iff_ne.2 h1
    have HS : Hid (sepB s k = false) := by
      show sepB s k = false
      unfold sepB
      split
      · rw [hb]; rfl
      · rfl
    clear h1
    go_enter Try.func15, Try.ntmps15
    go_wp2_with fail
    go_ret
    exact ⟨ret_bool (by rw [HS.out]), rfl⟩

/-! ### STEP 1: THE WALK: the Go text returns true. 'Grown w w'': the world has at most new blocks (Derived/RowKit3.lean). Part the cases AHEAD of 'go_enter' where a test parts the walk; take each callee by a contract of your own. -/
theorem walk (a0 : ByteArray) (a1 : Int) (w0 : a0.size ≤ maxLen) (w1 : (Lit.int .i64 a1).wf = true) (w : World) :
    Calls Try.prog 5 #[.string a0, .int .i64 a1] w fun e w' => e = .returned (.bool true) ∧ Grown w w' := by
  unfold maxLen at w0
  have hb1 := bounds_i64 w1
  by_cases hs : a0.size ≤ 1048576
  · by_cases hf : 0 ≤ a1
    · by_cases hlt : a1 < a0.size
      · obtain ⟨n, rfl⟩ := Int.eq_ofNat_of_zero_le hf
        have hn : n < a0.size := by omega
        have hsp := nsep_spec a0 _ n rfl (by omega)
        obtain ⟨r, hr⟩ : ∃ r, r = nsep a0 n := ⟨_, rfl⟩
        rw [← hr] at hsp
        obtain ⟨hr1, hr2, hno, hyes, _⟩ := hsp
        have HR : Hid (nsep a0 (n : Int).toNat = r) := by rw [Int.toNat_natCast]; exact hr.symm
        have HNO : Hid (∀ i, n ≤ i → i < r → sepB a0 i = false) := hno
        have HYES : Hid (r < a0.size → sepB a0 r = true) := hyes
        clear hr hno hyes w0 w1
        go_enter Try.func5, Try.ntmps5
        go_wp2_with (first | (go_at_call 13; go_in) | fail)
        refine (zzNameSep _ _ _ hs (by omega) (by omega)).mono ?_
        rintro e w1 ⟨rfl, rfl⟩
        rw [HR.out]
        go_wp2_with fail
        have hd1 : ∀ i : Decidable (r < n), @decide (r < n) i = false := fun i => @decide_eq_false _ i (by omega)
        have hd2 : ∀ i : Decidable (a0.size < r), @decide (a0.size < r) i = false := fun i => @decide_eq_false _ i (by omega)
        simp only [hd1, hd2, Bool.or_false]
        clear hd1 hd2
        go_loop [6] (fun i => ∃ k : Nat, n ≤ k ∧ k ≤ r ∧ i = .int .i64 k) (fun i => r - (intOf i).toNat)
        case atStart => exact ⟨n, Nat.le_refl _, hr1, rfl⟩
        case round =>
          obtain ⟨k, hk1, hk2, rfl⟩ := hrel
          by_cases hk : k < r
          · have hb := HNO.out k hk1 hk
            go_wp2_with (go_at_call 15; refine (separatorAt _ _ _ hs (by omega)).mono ?_; rintro e w' ⟨rfl, rfl⟩)
            go_round
            case rel => exact ⟨k + 1, by omega, by omega, by go_num⟩
            case measure => simp [intOf]; omega
          · by_cases hlast : r < a0.size
            · have hb := HYES.out hlast
              go_wp2_with (go_at_call 15; refine (separatorAt _ _ _ hs hlast).mono ?_; rintro e w' ⟨rfl, rfl⟩)
              go_ret
              exact ⟨rfl, Grown.refl _⟩
            · go_wp2_with fail
              go_ret
              exact ⟨rfl, Grown.refl _⟩
      · have HE : Hid (nsep a0 a1.toNat = a0.size) := nsep_ge a0 _ (by omega)
        go_enter Try.func5, Try.ntmps5
        go_wp2_with (first | (go_at_call 13; go_in) | fail)
        refine (zzNameSep _ _ _ hs (by omega) (by omega)).mono ?_
        rintro e w1 ⟨rfl, rfl⟩
        rw [HE.out]
        go_wp2_with fail
        go_ret
        exact ⟨rfl, Grown.refl _⟩
    · go_enter Try.func5, Try.ntmps5
      go_wp2_with (first | (go_at_call 13; go_in) | fail)
      go_ret
      exact ⟨rfl, Grown.refl _⟩
  · go_enter Try.func5, Try.ntmps5
    go_wp2_with (first | (go_at_call 13; go_in) | fail)
    go_ret
    exact ⟨rfl, Grown.refl _⟩

/-! ### THE ROW's STEP: WRITTEN OUT: LEAVE IT -/
set_option maxRecDepth 100000 in
theorem lifted (os : Os) (started : os.Started) (H : Type) (enc : TypeId × Value → H) :
    ReturnsInHanded {} Try.checked os 5 .any (Rows.fnNameSeparatorFirstSpec.pre6 enc Try.prog Try.f5 Rows.fnNameSeparatorFirstRow.domain false) (Rows.fnNameSeparatorFirstSpec.post enc Try.prog Try.f5 false true false false) := by
  refine returnsInHanded_of_change (C := Try.checked) own started (by kernel_rfl) Try.func5
    (ChangeSpec.witness6 (enc := enc) (C := Try.checked) false ⟨#[], #[.string ByteArray.empty, .int .i64 0], []⟩ 8 (by kernel_rfl) (by kernel_rfl) (by kernel_rfl) (by kernel_rfl)) ?_
  intro W base args ds gs before hval0 hW hcnd _
  have hval : ∀ (j : Nat) t v, Try.f5.params[j]? = some t → args[j]? = some v → Value.okWide Try.prog W .any base t v := hval0
  have hW' := hW
  obtain ⟨p, q, hA0, hV, rfl, hfz, hnd⟩ := hW
  have hA : DataW.TrodAll enc Try.prog W 0 (fun _ => true) true Try.f5.params.toList args.toList ds p := hA0
  rw [Try.params5] at hA hval
  obtain ⟨v0, vs0, d0, ds0, p0, q0, hargs, rfl, rfl, h0, r0⟩ := trodAll_cons hA
  obtain ⟨v1, vs1, d1, ds1, p1, q1, rfl, rfl, rfl, h1, r1⟩ := trodAll_cons r0
  obtain ⟨rfl, rfl, rfl⟩ := trodAll_nil r1
  obtain rfl : args = #[v0, v1] := by cases args; simp_all
  obtain ⟨rfl, rfl⟩ := trodVars_none hV
  obtain ⟨a0, rfl, rfl, rfl, w0⟩ := open_string Try.underlying9 (hval 0 9 v0 rfl rfl) h0
  obtain ⟨a1, rfl, rfl, rfl, w1⟩ := open_int Try.underlying3 (hval 1 3 v1 rfl rfl) h1
  clear hA0 hval0
  simp only [List.append_nil] at hW'
  refine (walk a0 a1 w0 w1 W).mono fun e W' ⟨he, hg⟩ => ?_
  subst he
  exact ⟨_, rfl, post_of_same (pa := []) (pv := []) hW' (fun _ _ _ => (trodAll_cons_mk (shut_bool Try.underlying4 _) trodAll_mk0)) (fun sp _ => (trodAll_cons_mk (shut_string Try.underlying9 w0) (trodAll_cons_mk (shut_int Try.underlying3 w1) trodAll_mk0))) (fun _ _ => rfl) rfl
    (hg.frame _) hg.2.1 (ok_one (by kernel_rfl) rfl (okWide_bool_mk Try.underlying4 _))⟩

theorem over : Rows.fnNameSeparatorFirstRow.holds Try.pinned (OpenSpec.ofChange Rows.fnNameSeparatorFirstSpec) :=
  OpenClaim.holds_of_wide 5 Try.f5 rfl rfl rfl rfl rfl rfl rfl ⟨rfl, rfl, rfl, rfl, rfl⟩ rfl rfl rfl rfl rfl (by kernel_rfl) Try.func5 (by kernel_rfl)
    (of_decide_eq_true (by kernel_rfl)) (by unfold Func.isWrapper; first | (rw [if_pos (by decide +kernel)]; kernel_rfl) | (rw [if_neg (by decide +kernel)]; exact ⟨rfl, rfl⟩))
    (fun os started H enc _ => lifted os started H enc)

/-- ████ THE STATEMENT ████ -/
theorem proved : Rows.FnNameSeparatorFirstSaid :=
  over
#print axioms proved
end Go.Proofs.Qxb6000522a.fnNameSeparatorFirst
