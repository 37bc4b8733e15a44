/-
  The proof of 'Rows.FnNameSeparatorRestartSaid'. The frame is the guide's template; the walk and the lemma ahead of it are typed for this function.
-/
import Derived.Test.Qxb6000522aRows
import Derived.WalkKit
import Derived.ProofKit
import Derived.OpenShut
import Derived.ShutString
import Derived.WalkSpells
import Derived.Test.Qxb6000522aSteps
namespace Go.Proofs.Qxb6000522a.fnNameSeparatorRestart
open Go.ChangeShapes Go.WideShapes Go.ChangeAt Go.RowKit
open Go.ChangeMaps (open_string shut_string)
set_option linter.unusedVariables false      -- a walk need not use every 'w<i>' (that an integer argument fits its kind)

theorem own : ownKnob Try.prog.godebug = none := by kernel_rfl

/-! ### THE PLACE OF THE RESTART -/
theorem mid (n r : Nat) (k : Int) (h : n ≤ r) (hr : r ≤ 1048576) : ∃ m : Nat, wrap64 ((n : Int) + k % ((r : Int) - n + 1)) = m ∧ n ≤ m ∧ m ≤ r := by
  have h1 := Int.emod_nonneg k (b := (r : Int) - n + 1) (by omega)
  have h2 := Int.emod_lt_of_pos k (b := (r : Int) - n + 1) (by omega)
  generalize k % ((r : Int) - n + 1) = x at h1 h2
  refine ⟨n + x.toNat, ?_, by omega, by omega⟩
  unfold wrap64
  omega

/-! ### STEP 1: THE WALK: the Go text returns true. 'Grown w w'': the world has at most new blocks (Derived/RowKit3.lean). Part the cases AHEAD of 'go_enter' where a test parts the walk; take each callee by a contract of your own. -/
theorem walk (a0 : ByteArray) (a1 : Int) (a2 : Int) (w0 : a0.size ≤ maxLen) (w1 : (Lit.int .i64 a1).wf = true) (w2 : (Lit.int .i64 a2).wf = true) (w : World) :
    Calls Try.prog 7 #[.string a0, .int .i64 a1, .int .i64 a2] w fun e w' => e = .returned (.bool true) ∧ Grown w w' := by
  unfold maxLen at w0
  have hb1 := bounds_i64 w1
  have hb2 := bounds_i64 w2
  by_cases hs : a0.size ≤ 1048576
  · by_cases hf : 0 ≤ a1
    · by_cases hk : 0 ≤ a2
      · by_cases hlt : a1 < a0.size
        · obtain ⟨n, rfl⟩ := Int.eq_ofNat_of_zero_le hf
          have hn : n < a0.size := by omega
          have hsp := nsep_spec a0 _ n rfl (by omega)
          have hnx := nsep_next a0 n (by omega)
          obtain ⟨r, hr⟩ : ∃ r, r = nsep a0 n := ⟨_, rfl⟩
          rw [← hr] at hsp hnx
          obtain ⟨hr1, hr2, _, _, hjs⟩ := hsp
          have HR : Hid (nsep a0 (n : Int).toNat = r) := by rw [Int.toNat_natCast]; exact hr.symm
          have HJ : Hid (∀ j, n ≤ j → j ≤ r → nsep a0 j = r) := hjs
          have HN : Hid (r < a0.size → ¬ nsep a0 (r + 1) = r + 1) := hnx
          clear hr hjs hnx w0 w1 w2
          go_enter Try.func7, Try.ntmps7
          go_wp2_with (first | (go_at_call 17; go_in) | fail)
          refine (zzNameSep _ _ _ hs (by omega) (by omega)).mono ?_
          rintro e w1 ⟨rfl, rfl⟩
          rw [HR.out]
          go_wp2_with fail
          obtain ⟨m, hm1, hm2, hm3⟩ := mid n r a2 hr1 (by omega)
          rw [hm1]
          clear hm1
          refine (zzNameSep _ _ _ hs (by omega) (by omega)).mono ?_
          rintro e w2 ⟨rfl, rfl⟩
          rw [Int.toNat_natCast, HJ.out m hm2 hm3]
          by_cases hlast : r < a0.size
          · go_wp2_with fail
            have hnr := HN.out hlast
            have hnb : (((nsep a0 (r + 1) : Nat) : Int) == (r : Int) + 1) = false := beq_eq_false_iff_ne.2 (by omega)
            clear hnr
            refine (zzNameSep _ _ _ hs (by omega) (by omega)).mono ?_
            rintro e w3 ⟨rfl, rfl⟩
            rw [show ((r : Int) + 1).toNat = r + 1 from by omega]
            generalize nsep a0 (r + 1) = z at *
            go_wp2_with fail
            go_ret
            exact ⟨rfl, Grown.refl _⟩
          · go_wp2_with fail
            go_ret
            exact ⟨rfl, Grown.refl _⟩
        · have HE : Hid (nsep a0 a1.toNat = a0.size) := nsep_ge a0 _ (by omega)
          have HF : Hid (nsep a0 (a0.size : Int).toNat = a0.size) := nsep_ge a0 _ (by omega)
          go_enter Try.func7, Try.ntmps7
          go_wp2_with (first | (go_at_call 17; go_in) | fail)
          refine (zzNameSep _ _ _ hs (by omega) (by omega)).mono ?_
          rintro e w1 ⟨rfl, rfl⟩
          rw [HE.out]
          go_wp2_with fail
          refine (zzNameSep _ _ _ hs (by omega) (by omega)).mono ?_
          rintro e w2 ⟨rfl, rfl⟩
          rw [HF.out]
          go_wp2_with fail
          go_ret
          exact ⟨rfl, Grown.refl _⟩
      · go_enter Try.func7, Try.ntmps7
        go_wp2_with (first | (go_at_call 17; go_in) | fail)
        go_ret
        exact ⟨rfl, Grown.refl _⟩
    · go_enter Try.func7, Try.ntmps7
      go_wp2_with (first | (go_at_call 17; go_in) | fail)
      go_ret
      exact ⟨rfl, Grown.refl _⟩
  · go_enter Try.func7, Try.ntmps7
    go_wp2_with (first | (go_at_call 17; go_in) | fail)
    go_ret
    exact ⟨rfl, Grown.refl _⟩

/-! ### THE ROW's STEP: WRITTEN OUT: LEAVE IT -/
set_option maxRecDepth 100000 in
theorem lifted (os : Os) (started : os.Started) (H : Type) (enc : TypeId × Value → H) :
    ReturnsInHanded {} Try.checked os 7 .any (Rows.fnNameSeparatorRestartSpec.pre6 enc Try.prog Try.f7 Rows.fnNameSeparatorRestartRow.domain false) (Rows.fnNameSeparatorRestartSpec.post enc Try.prog Try.f7 false true false false) := by
  refine returnsInHanded_of_change (C := Try.checked) own started (by kernel_rfl) Try.func7
    (ChangeSpec.witness6 (enc := enc) (C := Try.checked) false ⟨#[], #[.string ByteArray.empty, .int .i64 0, .int .i64 0], []⟩ 8 (by kernel_rfl) (by kernel_rfl) (by kernel_rfl) (by kernel_rfl)) ?_
  intro W base args ds gs before hval0 hW hcnd _
  have hval : ∀ (j : Nat) t v, Try.f7.params[j]? = some t → args[j]? = some v → Value.okWide Try.prog W .any base t v := hval0
  have hW' := hW
  obtain ⟨p, q, hA0, hV, rfl, hfz, hnd⟩ := hW
  have hA : DataW.TrodAll enc Try.prog W 0 (fun _ => true) true Try.f7.params.toList args.toList ds p := hA0
  rw [Try.params7] at hA hval
  obtain ⟨v0, vs0, d0, ds0, p0, q0, hargs, rfl, rfl, h0, r0⟩ := trodAll_cons hA
  obtain ⟨v1, vs1, d1, ds1, p1, q1, rfl, rfl, rfl, h1, r1⟩ := trodAll_cons r0
  obtain ⟨v2, vs2, d2, ds2, p2, q2, rfl, rfl, rfl, h2, r2⟩ := trodAll_cons r1
  obtain ⟨rfl, rfl, rfl⟩ := trodAll_nil r2
  obtain rfl : args = #[v0, v1, v2] := by cases args; simp_all
  obtain ⟨rfl, rfl⟩ := trodVars_none hV
  obtain ⟨a0, rfl, rfl, rfl, w0⟩ := open_string Try.underlying9 (hval 0 9 v0 rfl rfl) h0
  obtain ⟨a1, rfl, rfl, rfl, w1⟩ := open_int Try.underlying3 (hval 1 3 v1 rfl rfl) h1
  obtain ⟨a2, rfl, rfl, rfl, w2⟩ := open_int Try.underlying3 (hval 2 3 v2 rfl rfl) h2
  clear hA0 hval0
  simp only [List.append_nil] at hW'
  refine (walk a0 a1 a2 w0 w1 w2 W).mono fun e W' ⟨he, hg⟩ => ?_
  subst he
  exact ⟨_, rfl, post_of_same (pa := []) (pv := []) hW' (fun _ _ _ => (trodAll_cons_mk (shut_bool Try.underlying4 _) trodAll_mk0)) (fun sp _ => (trodAll_cons_mk (shut_string Try.underlying9 w0) (trodAll_cons_mk (shut_int Try.underlying3 w1) (trodAll_cons_mk (shut_int Try.underlying3 w2) trodAll_mk0)))) (fun _ _ => rfl) rfl
    (hg.frame _) hg.2.1 (ok_one (by kernel_rfl) rfl (okWide_bool_mk Try.underlying4 _))⟩

theorem over : Rows.fnNameSeparatorRestartRow.holds Try.pinned (OpenSpec.ofChange Rows.fnNameSeparatorRestartSpec) :=
  OpenClaim.holds_of_wide 7 Try.f7 rfl rfl rfl rfl rfl rfl rfl ⟨rfl, rfl, rfl, rfl, rfl⟩ rfl rfl rfl rfl rfl (by kernel_rfl) Try.func7 (by kernel_rfl)
    (of_decide_eq_true (by kernel_rfl)) (by unfold Func.isWrapper; first | (rw [if_pos (by decide +kernel)]; kernel_rfl) | (rw [if_neg (by decide +kernel)]; exact ⟨rfl, rfl⟩))
    (fun os started H enc _ => lifted os started H enc)

/-- ████ THE STATEMENT ████ -/
theorem proved : Rows.FnNameSeparatorRestartSaid :=
  over
#print axioms proved
end Go.Proofs.Qxb6000522a.fnNameSeparatorRestart
