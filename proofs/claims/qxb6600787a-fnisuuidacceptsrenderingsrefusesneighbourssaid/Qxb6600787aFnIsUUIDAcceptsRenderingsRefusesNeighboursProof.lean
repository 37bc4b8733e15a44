/-
  The proof of 'Rows.FnIsUUIDAcceptsRenderingsRefusesNeighboursSaid'. The frame is the guide's template, turned by hand to an array of sixteen bytes and a bool.
-/
import Derived.Test.Qxb6600787aRows
import Derived.WalkKit
import Derived.ProofKit
import Derived.OpenShut
import Derived.ShutString
import Derived.ChangeOld
import Derived.Below
import Derived.Test.Qxb6600787aLaw
namespace Go.Proofs.Qxb6600787a.fnIsUUIDAcceptsRenderingsRefusesNeighbours
open Go.ChangeShapes Go.WideShapes Go.ChangeAt Go.RowKit

theorem own : ownKnob Try.prog.godebug = none := by kernel_rfl
theorem laidOut : laidOutB Try.prog = true := by kernel_rfl

/-- An array of sixteen bytes, opened: its cells are sixteen numbers, each fitting a byte. -/
theorem open_sixteen {H : Type} {enc : TypeId × Value → H} {W : World} {base b0 : Nat} {sp : Nat → Bool} {held : Bool} {r : Reach} {v : Value} {d : DataW H} {p : List MemPlace}
    (hv : Value.okWide Try.prog W r b0 24 v) (hd : DataW.Trod enc Try.prog W base sp held 24 v d p) :
    ∃ (X : Array Value) (zs : List Int), v = .agg X ∧ X.size = 16 ∧ (∀ i, i < 16 → X[i]? = some (.int .u8 (zs.getD i 0))) ∧ ∀ i, i < 16 → 0 ≤ zs.getD i 0 ∧ zs.getD i 0 ≤ 255 := by
  simp only [Value.okWide, Try.underlying24] at hv
  obtain ⟨X, rfl, hs, _⟩ := hv
  have hc : Try.prog.cellsOf 24 = 16 := by kernel_rfl
  have hc5 : Try.prog.cellsOf 5 = 1 := by kernel_rfl
  rw [hc] at hs
  obtain ⟨fuel, hf⟩ := hd
  have hcells : (Value.agg X).cells.toList = X.toList := by simp [Value.cells]
  rw [hcells] at hf
  obtain ⟨xs, m, _, _, _, hxl, hall⟩ := DataW.trod_array Try.underlying24 hf
  have key : ∀ i, i < 16 → ∃ n, X[i]? = some (.int .u8 n) ∧ (Lit.int .u8 n).wf = true := fun i hi => by
    have h := hall i hi
    rw [hc5, Nat.mul_one, List.getElem?_eq_getElem (by omega)] at h
    obtain ⟨n, hcs, _, hw⟩ := DataW.trod_int Try.underlying5 h
    refine ⟨n, ?_, hw⟩
    have hlt : i < X.toList.length := by simpa [hs] using hi
    rw [List.drop_eq_getElem_cons hlt, List.take_succ_cons, List.take_zero] at hcs
    rw [← Array.getElem?_toList, List.getElem?_eq_getElem hlt]
    injection hcs with h1 _
    rw [h1]
  have hz : ∀ i n, X[i]? = some (.int .u8 n) → (X.toList.map intOf).getD i 0 = n := fun i n h => by
    rw [List.getD_eq_getElem?_getD, List.getElem?_map, Array.getElem?_toList, h]
    rfl
  refine ⟨X, X.toList.map intOf, rfl, hs, fun i hi => ?_, fun i hi => ?_⟩
  · obtain ⟨n, hn, _⟩ := key i hi
    rw [hz i n hn]
    exact hn
  · obtain ⟨n, hn, hw⟩ := key i hi
    rw [hz i n hn]
    exact bounds_u8 hw

set_option maxRecDepth 100000 in
theorem lifted (os : Os) (started : os.Started) (H : Type) (enc : TypeId × Value → H) :
    ReturnsInHanded {} Try.checked os 5 .any (Rows.fnIsUUIDAcceptsRenderingsRefusesNeighboursSpec.pre6 enc Try.prog Try.f5 Rows.fnIsUUIDAcceptsRenderingsRefusesNeighboursRow.domain false) (Rows.fnIsUUIDAcceptsRenderingsRefusesNeighboursSpec.post enc Try.prog Try.f5 false true false false) := by
  refine returnsInHanded_of_change (C := Try.checked) own started (by kernel_rfl) Try.func5
    (ChangeSpec.witness6 (enc := enc) (C := Try.checked) false ⟨#[], #[.agg #[.int .u8 0, .int .u8 0, .int .u8 0, .int .u8 0, .int .u8 0, .int .u8 0, .int .u8 0, .int .u8 0, .int .u8 0, .int .u8 0, .int .u8 0, .int .u8 0, .int .u8 0, .int .u8 0, .int .u8 0, .int .u8 0], .bool false], []⟩ 8 (by kernel_rfl) (by kernel_rfl) (by kernel_rfl) (by kernel_rfl)) ?_
  intro W base args ds gs before hval0 hW hcnd _
  have hval : ∀ (j : Nat) t v, Try.f5.params[j]? = some t → args[j]? = some v → Value.okWide Try.prog W .any base t v := hval0
  have hW' := hW
  obtain ⟨p, q, hA0, hV, rfl, hfz, hnd⟩ := hW
  have hA : DataW.TrodAll enc Try.prog W 0 (fun _ => true) true Try.f5.params.toList args.toList ds p := hA0
  rw [Try.params5] at hA hval
  obtain ⟨v0, vs0, d0, ds0, p0, q0, hargs, rfl, rfl, h0, r0⟩ := trodAll_cons hA
  obtain ⟨v1, vs1, d1, ds1, p1, q1, rfl, rfl, rfl, h1, r1⟩ := trodAll_cons r0
  obtain ⟨rfl, rfl, rfl⟩ := trodAll_nil r1
  obtain rfl : args = #[v0, v1] := by cases args; simp_all
  obtain ⟨rfl, rfl⟩ := trodVars_none hV
  have k0 := h0
  have lt0 : ∀ x ∈ p0, x.block < W.heap.size := by obtain ⟨m, hm⟩ := k0; exact DataW.trod_lt m _ _ _ hm
  obtain ⟨X, zs, rfl, hXs, hX, hr⟩ := open_sixteen (hval 0 24 v0 rfl rfl) h0
  have k1 := h1
  have lt1 : ∀ x ∈ p1, x.block < W.heap.size := by obtain ⟨m, hm⟩ := k1; exact DataW.trod_lt m _ _ _ hm
  obtain ⟨up, rfl⟩ := okWide_bool Try.underlying4 (hval 1 4 v1 rfl rfl)
  clear hA0 hval0
  refine (law X zs up W hXs hX hr).mono fun e W' ⟨he, bel⟩ => ?_
  subst he
  exact ⟨_, rfl, _, _, _, [], _, [], hW', trodAll_mk1 (shut_bool Try.underlying4 _), (trodAll_cons_mk (Below.trod laidOut (by kernel_rfl) (of_decide_eq_true (by kernel_rfl)) k0 bel lt0) (trodAll_cons_mk (Below.trod laidOut (by kernel_rfl) (of_decide_eq_true (by kernel_rfl)) k1 bel lt1) trodAll_mk0)), rfl, bel.frame _, fun h => by cases h⟩

theorem over : Rows.fnIsUUIDAcceptsRenderingsRefusesNeighboursRow.holds Try.pinned (OpenSpec.ofChange Rows.fnIsUUIDAcceptsRenderingsRefusesNeighboursSpec) :=
  OpenClaim.holds_of_wide 5 Try.f5 rfl rfl rfl rfl rfl rfl rfl ⟨rfl, rfl, rfl, rfl, rfl⟩ rfl rfl rfl rfl rfl (by kernel_rfl) Try.func5 (by kernel_rfl)
    (of_decide_eq_true (by kernel_rfl)) (by unfold Func.isWrapper; first | (rw [if_pos (by decide +kernel)]; kernel_rfl) | (rw [if_neg (by decide +kernel)]; exact ⟨rfl, rfl⟩))
    (fun os started H enc _ => lifted os started H enc)

theorem proved : Rows.FnIsUUIDAcceptsRenderingsRefusesNeighboursSaid := over
#print axioms proved
end Go.Proofs.Qxb6600787a.fnIsUUIDAcceptsRenderingsRefusesNeighbours
