/-
  The proof of the statement that this text's last theorem names. The frame is the guide's template; what stands ahead of the row's step is typed for this function.
-/
import Derived.Test.Qxb6600300aRows
import Derived.WalkKit
import Derived.ProofKit
import Derived.OpenShut
import Derived.ShutString
import Derived.ChangeOld
import Derived.Below
import Derived.WalkSpells
import Derived.Test.Qxb6600300aPrefix
namespace Go.Proofs.Qxb6600300a.fnLineCounterAtIsOnePlusNewlinesBefore
open Go.ChangeShapes Go.WideShapes Go.ChangeAt Go.RowKit
open Go.ChangeMaps (open_string shut_string)
set_option linter.unusedVariables false

theorem own : ownKnob Try.prog.godebug = none := by kernel_rfl
theorem laidOut : laidOutB Try.prog = true := by kernel_rfl

/-- WHAT THE WALK IS TOLD OF A SLICE OF INTEGERS THAT CAME IN: it is nil; or it leads to a row of 'cap' cells, the numbers 'zs' (the first 'len' are its elements, the rest its spare room), each fitting its kind. -/
def IsRow (k : IntKind) (w : World) (a : Option Addr) (len cap : Nat) (zs : List Int) : Prop :=
  (a = none ∧ len = 0 ∧ cap = 0 ∧ zs = []) ∨
  ∃ x, a = some x ∧ len ≤ cap ∧ cap ≤ maxLen ∧ zs.length = cap ∧ (∀ i, i < zs.length → w.cell? (x.add i) = some (.int k (zs.getD i 0))) ∧ ∀ n ∈ zs, (Lit.int k n).wf = true

/-! ### WHAT THE WALK USES OF A SLICE THAT CAME IN -/
theorem came {k : IntKind} {w : World} {a : Option Addr} {len cap : Nat} {zs : List Int} (h : IsRow k w a len cap zs) : Came k w a len cap zs := by
  rcases h with ⟨rfl, rfl, rfl, rfl⟩ | ⟨x, rfl, hl, hm, hz, hc, hw⟩
  · exact ⟨fun _ => ⟨rfl, rfl⟩, (fun x hx => by cases hx), Nat.le_refl _⟩
  · exact ⟨(fun h => by cases h), (fun y hy i hi => by cases hy; exact hc i (by omega)), by omega⟩

theorem bound {k : IntKind} {w : World} {a : Option Addr} {len cap : Nat} {zs : List Int} (h : IsRow k w a len cap zs) : len ≤ 9223372036854775807 := by
  rcases h with ⟨rfl, rfl, rfl, rfl⟩ | ⟨x, rfl, hl, hm, hz, hc, hw⟩
  · omega
  · unfold maxLen at hm; omega

theorem rng {w : World} {a : Option Addr} {len cap : Nat} {zs : List Int} (h : IsRow .u8 w a len cap zs) (i : Nat) (hi : i < len) : 0 ≤ zs.getD i 0 ∧ zs.getD i 0 ≤ 255 := by
  rcases h with ⟨rfl, rfl, rfl, rfl⟩ | ⟨x, rfl, hl, hm, hz, hc, hw⟩
  · omega
  · have h := range_u8 hw i
    simpa [List.getD] using h

/-- The table of newlines in block g, below C. -/
def Table (w : World) (g C len : Nat) (zs : List Int) : Prop :=
  g < C ∧ ∀ i, i ≤ len → w.cell? ⟨g, i, none⟩ = some (.int .i64 (nl zs i))

theorem Table.below {w w' : World} {g C len : Nat} {zs : List Int} (h : Table w g C len zs) (hb : Below C w w') : Table w' g C len zs :=
  ⟨h.1, fun i hi => (hb.cell (p := ⟨g, i, none⟩) h.1).trans (h.2 i hi)⟩

/-! ### STEP 1: THE WALK: the Go text returns true, AND WRITES NOTHING THAT WAS THERE: 'Below w.heap.size w w'' (Derived/Below.lean: '.refl', '.alloc', '.drew', '.setCell' at a new block, '.trans'). Open each 'IsRow' by 'rcases' AHEAD of 'go_enter'; part every test ahead of the walk. -/
set_option maxHeartbeats 4000000 in
theorem walk (a0 : Option Addr) (len0 cap0 : Nat) (z0 : List Int) (a1 : Option Addr) (len1 cap1 : Nat) (z1 : List Int) (w : World) (w0 : IsRow .u8 w a0 len0 cap0 z0) (w1 : IsRow .i64 w a1 len1 cap1 z1) :
    Calls Try.prog 4 #[.slice a0 len0 cap0, .slice a1 len1 cap1] w fun e w' => e = .returned (.bool true) ∧ Below w.heap.size w w' := by
  have c0 : Came .u8 w a0 len0 cap0 z0 := came w0
  have c1 : Came .i64 w a1 len1 cap1 z1 := came w1
  have b0 := bound w0
  have b1 := bound w1
  have HRNG : Hid (∀ i, i < len0 → 0 ≤ z0.getD i 0 ∧ z0.getD i 0 ≤ 255) := fun i hi => rng w0 i hi
  clear w0 w1
  by_cases hA : len0 + len1 ≤ 1048576
  · by_cases hB : len1 ≤ 131072
    · by_cases hD : len0 + 8 * len1 ≤ 1048576
      · go_enter Try.func4, Try.ntmps4
        go_wp2_with (first | (go_at_call 12; go_in) | fail)
        refine (offsetsFit_any a0 len0 cap0 a1 len1 cap1 z1 _ (by omega) (fun h => (c1.1 h).1) c1.2.1).mono ?_
        rintro e w1 ⟨r, rfl, hfit, nd, rfl⟩
        cases r with
        | false =>
          clear hfit
          go_wp2_with fail
          go_ret
          exact ⟨rfl, (Below.refl _ w).trans ⟨rfl, rfl, rfl, Nat.le_refl _, fun _ _ => rfl⟩⟩
        | true =>
          have HFIT : Hid (Fits len0 z1 len1) := hfit rfl
          clear hfit
          go_wp2_with fail
          have bd : Below w.heap.size w (w.drewN nd) := ⟨rfl, rfl, rfl, Nat.le_refl _, fun _ _ => rfl⟩
          have c0d := c0.later bd
          refine (copyBytes_any a0 len0 cap0 z0 _ (by omega) c0d.1 c0d.2.1).mono ?_
          rintro e w2 ⟨d0, rfl, hH0, hb2⟩
          have b2 : Below w.heap.size w w2 := bd.trans hb2
          have c1' := c1.later b2
          clear hb2 bd c0d
          go_wp2_with fail
          refine (copyInts_any a1 len1 cap1 z1 _ (by omega) c1'.1 c1'.2.1).mono ?_
          rintro e w3 ⟨d1, rfl, hH1, hb3⟩
          have hH0' := (hH0.below hb3).mono hb3.size
          have b3 : Below w.heap.size w w3 := b2.trans (hb3.mono b2.size)
          clear hH0 hb3 b2 c1' c1
          go_wp2_with fail
          have hz0 := c0.2.2
          clear c0
          refine (table_any w3.heap.size d0 len0 z0 _ (by omega) hz0 HRNG.out (Nat.le_refl _) hH0').mono ?_
          rintro e wt ⟨rfl, T, hwt, hT1, hT2⟩
          have bt : Below w3.heap.size w3 wt := by rw [hwt]; exact (Below.refl _ _).alloc (Nat.le_refl _) _
          have hPT : Table wt w3.heap.size wt.heap.size len0 z0 := by
            rw [hwt]
            exact ⟨by simp, fun i hi => by rw [World.cell?_alloc_new]; exact hT2 i (by omega)⟩
          have hI0 := (hH0'.below bt).mono bt.size
          have hI1 := (hH1.below bt).mono bt.size
          have b3t : Below w.heap.size w wt := b3.trans (bt.mono b3.size)
          clear hwt hT1 hT2 bt hH0' hH1 b3
          generalize w3.heap.size = gT at *
          go_wp2_with fail
          refine (newCounter d0 len0 len0 _).mono ?_
          rintro e w4 ⟨rfl, hw4⟩
          have bb : Below wt.heap.size wt w4 := by rw [hw4]; exact (Below.refl _ _).alloc (Nat.le_refl _) _
          have hC : Cnt w4 wt.heap.size d0 len0 0 (nl z0 0) := by
            rw [hw4]
            unfold Cnt
            show (wt.heap.push _)[wt.heap.size]? = _
            simp [nl_zero]
          have hG0 := hI0.below bb
          have hG1 := hI1.below bb
          have b4 : Below w.heap.size w w4 := b3t.trans (bb.mono b3t.size)
          have hle : w.heap.size ≤ wt.heap.size := b3t.size
          have hG2 := hPT.below bb
          clear hw4 bb hI0 hI1 b3t hPT
          generalize wt.heap.size = C at *
          go_wp2_with fail
          go_loopw [7] (fun i wr => ∃ k p : Nat, k ≤ len1 ∧ i = .int .i64 k ∧ p ≤ len0 ∧ Next z1 len1 k p ∧
              Holds C .u8 wr d0 len0 z0 ∧ Holds C .i64 wr d1 len1 z1 ∧ Table wr gT C len0 z0 ∧ Cnt wr C d0 len0 p (nl z0 p) ∧ Below C w4 wr) (fun i _ => len1 - (intOf i).toNat)
          case atStart => exact ⟨0, 0, Nat.zero_le _, rfl, Nat.zero_le _, Next.start HFIT.out, hG0, hG1, hG2, hC, Below.refl _ _⟩
          case round =>
            obtain ⟨k, p, hk, rfl, hp, hnext, hR0, hR1, hR2, hRC, hRB⟩ := hrel
            clear hG0 hG1 hG2 hC
            by_cases hlt : k < len1
            · obtain ⟨q, hq, hqn⟩ := HFIT.out.at hlt
              have hpq : p ≤ q := hnext.le hlt hq
              have hnx : Next z1 len1 (k + 1) q := Next.step HFIT.out hlt hq
              have hq2 := nl_le z0 q
              rcases hR1 with ⟨rfl, h0⟩ | ⟨g, rfl, hg, hc⟩
              · omega
              · have hck := hc k hlt
                rw [hq] at hck
                have HR1 : Hid (Holds C .i64 wr (some ⟨g, 0, none⟩) len1 z1) := Or.inr ⟨g, rfl, hg, hc⟩
                have HQ : Hid (z1.getD k 0 = (q : Int)) := hq
                clear hc hq hnext
                go_wp2_with fail
                refine (zzAt C len0 p q d0 z0 _ (by omega) hz0 hpq hqn hR0 hRC).mono ?_
                rintro e w5 ⟨rfl, hC5, hB5⟩
                have hS0 := hR0.below hB5
                have HS1 : Hid (Holds C .i64 w5 (some ⟨g, 0, none⟩) len1 z1) := HR1.out.below hB5
                have hS2 := hR2.below hB5
                have hSB := hRB.trans hB5
                have hck5 : w5.cell? ⟨g, k, none⟩ = some (.int .i64 q) := (hB5.cell (p := ⟨g, k, none⟩) hg).trans hck
                have hcq := hS2.2 q hqn
                have hbn : (((nl z0 q : Nat) : Int) + 1 != 1 + ((nl z0 q : Nat) : Int)) = false := by rw [Int.add_comm]; simp
                clear HR1 hR0 hR2 hRB hB5 hRC hck
                go_wp2_with fail
                go_roundw
                case rel => exact ⟨k + 1, q, by omega, by go_num, hqn, hnx, hS0, HS1.out, hS2, hC5, hSB⟩
                case measure => simp [intOf]; omega
            · go_wp2_with fail
              go_ret
              exact ⟨rfl, b4.trans (hRB.mono hle)⟩
      · go_enter Try.func4, Try.ntmps4
        go_wp2_with (first | (go_at_call 12; go_in) | fail)
        go_ret
        exact ⟨rfl, Below.refl _ _⟩
    · go_enter Try.func4, Try.ntmps4
      go_wp2_with (first | (go_at_call 12; go_in) | fail)
      go_ret
      exact ⟨rfl, Below.refl _ _⟩
  · go_enter Try.func4, Try.ntmps4
    go_wp2_with (first | (go_at_call 12; go_in) | fail)
    all_goals
      go_ret
      exact ⟨rfl, Below.refl _ _⟩

/-! ### THE ROW's STEP: WRITTEN OUT: LEAVE IT -/
set_option maxRecDepth 100000 in
theorem lifted (os : Os) (started : os.Started) (H : Type) (enc : TypeId × Value → H) :
    ReturnsInHanded {} Try.checked os 4 .any (Rows.fnLineCounterAtIsOnePlusNewlinesBeforeSpec.pre6 enc Try.prog Try.f4 Rows.fnLineCounterAtIsOnePlusNewlinesBeforeRow.domain false) (Rows.fnLineCounterAtIsOnePlusNewlinesBeforeSpec.post enc Try.prog Try.f4 false true false false) := by
  refine returnsInHanded_of_change (C := Try.checked) own started (by kernel_rfl) Try.func4
    (ChangeSpec.witness6 (enc := enc) (C := Try.checked) false ⟨#[], #[.slice none 0 0, .slice none 0 0], []⟩ 8 (by kernel_rfl) (by kernel_rfl) (by kernel_rfl) (by kernel_rfl)) ?_
  intro W base args ds gs before hval0 hW hcnd _
  have hval : ∀ (j : Nat) t v, Try.f4.params[j]? = some t → args[j]? = some v → Value.okWide Try.prog W .any base t v := hval0
  have hW' := hW
  obtain ⟨p, q, hA0, hV, rfl, hfz, hnd⟩ := hW
  have hA : DataW.TrodAll enc Try.prog W 0 (fun _ => true) true Try.f4.params.toList args.toList ds p := hA0
  rw [Try.params4] at hA hval
  obtain ⟨v0, vs0, d0, ds0, p0, q0, hargs, rfl, rfl, h0, r0⟩ := trodAll_cons hA
  obtain ⟨v1, vs1, d1, ds1, p1, q1, rfl, rfl, rfl, h1, r1⟩ := trodAll_cons r0
  obtain ⟨rfl, rfl, rfl⟩ := trodAll_nil r1
  obtain rfl : args = #[v0, v1] := by cases args; simp_all
  obtain ⟨rfl, rfl⟩ := trodVars_none hV
  obtain ⟨a0, len0, cap0, rfl⟩ := okWide_slice Try.underlying31 (hval 0 31 v0 rfl rfl)
  have k0 := h0
  have lt0 : ∀ x ∈ p0, x.block < W.heap.size := by obtain ⟨m, hm⟩ := k0; exact DataW.trod_lt m _ _ _ hm
  obtain ⟨z0, w0⟩ : ∃ zs, IsRow .u8 W a0 len0 cap0 zs := by
    obtain ⟨fuel, hf⟩ := h0
    rcases open_ints Try.underlying31 Try.underlying5 (by kernel_rfl) hf with ⟨hcs, _⟩ | ⟨x, l, c, zs, hcs, _, hl, hm, hz, _, hcell, hwz⟩
    · simp [Value.cells] at hcs
      obtain ⟨rfl, rfl, rfl⟩ := hcs
      exact ⟨[], .inl ⟨rfl, rfl, rfl, rfl⟩⟩
    · simp [Value.cells] at hcs
      obtain ⟨rfl, rfl, rfl⟩ := hcs
      exact ⟨zs, .inr ⟨_, rfl, hl, hm, by simpa using hz, hcell, hwz⟩⟩
  obtain ⟨a1, len1, cap1, rfl⟩ := okWide_slice Try.underlying32 (hval 1 32 v1 rfl rfl)
  have k1 := h1
  have lt1 : ∀ x ∈ p1, x.block < W.heap.size := by obtain ⟨m, hm⟩ := k1; exact DataW.trod_lt m _ _ _ hm
  obtain ⟨z1, w1⟩ : ∃ zs, IsRow .i64 W a1 len1 cap1 zs := by
    obtain ⟨fuel, hf⟩ := h1
    rcases open_ints Try.underlying32 Try.underlying2 (by kernel_rfl) hf with ⟨hcs, _⟩ | ⟨x, l, c, zs, hcs, _, hl, hm, hz, _, hcell, hwz⟩
    · simp [Value.cells] at hcs
      obtain ⟨rfl, rfl, rfl⟩ := hcs
      exact ⟨[], .inl ⟨rfl, rfl, rfl, rfl⟩⟩
    · simp [Value.cells] at hcs
      obtain ⟨rfl, rfl, rfl⟩ := hcs
      exact ⟨zs, .inr ⟨_, rfl, hl, hm, by simpa using hz, hcell, hwz⟩⟩
  clear hA0 hval0
  refine (walk a0 len0 cap0 z0 a1 len1 cap1 z1 W w0 w1).mono fun e W' ⟨he, bel⟩ => ?_
  subst he
  exact ⟨_, rfl, _, _, _, [], _, [], hW', trodAll_mk1 (shut_bool Try.underlying4 _), (trodAll_cons_mk (Below.trod laidOut (by kernel_rfl) (of_decide_eq_true (by kernel_rfl)) k0 bel lt0) (trodAll_cons_mk (Below.trod laidOut (by kernel_rfl) (of_decide_eq_true (by kernel_rfl)) k1 bel lt1) trodAll_mk0)), rfl, bel.frame _, fun h => by cases h⟩

theorem over : Rows.fnLineCounterAtIsOnePlusNewlinesBeforeRow.holds Try.pinned (OpenSpec.ofChange Rows.fnLineCounterAtIsOnePlusNewlinesBeforeSpec) :=
  OpenClaim.holds_of_wide 4 Try.f4 rfl rfl rfl rfl rfl rfl rfl ⟨rfl, rfl, rfl, rfl, rfl⟩ rfl rfl rfl rfl rfl (by kernel_rfl) Try.func4 (by kernel_rfl)
    (of_decide_eq_true (by kernel_rfl)) (by unfold Func.isWrapper; first | (rw [if_pos (by decide +kernel)]; kernel_rfl) | (rw [if_neg (by decide +kernel)]; exact ⟨rfl, rfl⟩))
    (fun os started H enc _ => lifted os started H enc)

/-- ████ THE STATEMENT ████ -/
theorem proved : Rows.FnLineCounterAtIsOnePlusNewlinesBeforeSaid := over
#print axioms proved
end Go.Proofs.Qxb6600300a.fnLineCounterAtIsOnePlusNewlinesBefore
