/-
  The contract of offsetsFit.
-/
import Derived.Test.Qxb6600300aCopy
import Derived.Deep.QuietTactic
import Derived.BigQuiet
namespace Go.Proofs.Qxb6600300a
open Go.RowKit

/-- The first k numbers lie in [0, n] and none comes before the one ahead of it. -/
def Fits (n : Nat) (zs : List Int) (k : Nat) : Prop :=
  (∀ i, i < k → 0 ≤ zs.getD i 0 ∧ zs.getD i 0 ≤ n) ∧ ∀ i, i + 1 < k → zs.getD i 0 ≤ zs.getD (i + 1) 0

theorem Fits.step {n : Nat} {zs : List Int} {k : Nat} (h : Fits n zs k) (h0 : 0 ≤ zs.getD k 0) (h1 : zs.getD k 0 ≤ n) (h2 : ∀ j, k = j + 1 → zs.getD j 0 ≤ zs.getD k 0) : Fits n zs (k + 1) := by
  refine ⟨fun i hi => ?_, fun i hi => ?_⟩
  · by_cases e : i = k
    · subst e; exact ⟨h0, h1⟩
    · exact h.1 i (by omega)
  · by_cases e : i + 1 = k
    · have := h2 i e.symm
      rw [e]; exact this
    · exact h.2 i (by omega)

/-- What offsetsFit leaves: an answer; where it is yes the numbers fit; some draws. -/
def FitPost (n : Nat) (zs : List Int) (len : Nat) (w : World) (e : Ending) (w' : World) : Prop :=
  ∃ r, e = .returned (.bool r) ∧ (r = true → Fits n zs len) ∧ ∃ q, w' = w.drewN q

theorem FitPost.no {n : Nat} {zs : List Int} {len : Nat} {w : World} (q : Nat) : FitPost n zs len w (.returned (.bool false)) (w.drewN q) := ⟨false, rfl, fun h => (by cases h), q, rfl⟩
theorem FitPost.yes {n : Nat} {zs : List Int} {len : Nat} {w : World} (q : Nat) (h : Fits n zs len) : FitPost n zs len w (.returned (.bool true)) (w.drewN q) := ⟨true, rfl, fun _ => h, q, rfl⟩

set_option maxHeartbeats 1000000 in
theorem offsetsFit_any (a0 : Option Addr) (len0 cap0 : Nat) (a1 : Option Addr) (len1 cap1 : Nat) (zs : List Int) (w : World) (h1 : len1 ≤ 1048576)
    (hn : a1 = none → len1 = 0) (hc : ∀ x, a1 = some x → ∀ i, i < len1 → w.cell? (x.add i) = some (.int .i64 (zs.getD i 0))) :
    Calls Try.prog 13 #[.slice a0 len0 cap0, .slice a1 len1 cap1] w fun e w' => FitPost len0 zs len1 w e w' := by
  by_cases hz : len1 = 0
  · have hz1 : ¬ (0 : Int) < (len1 : Int) := by omega
    clear hn hc hz
    go_enter Try.func13, Try.ntmps13
    go_wp2
    go_loop [5] (fun i => i = .int .i64 0) (fun _ => 0)
    case atStart => rfl
    case round =>
      subst hrel
      go_wp2
      go_ret
      exact FitPost.yes 0 ⟨fun i hi => by omega, fun i hi => by omega⟩
  · obtain ⟨x, rfl⟩ : ∃ x, a1 = some x := by
      cases a1 with
      | none => exact absurd (hn rfl) hz
      | some x => exact ⟨x, rfl⟩
    obtain ⟨b, off, rfl, hcell⟩ := row_at (hc x rfl) (by omega)
    clear hc hn
    go_enter Try.func13, Try.ntmps13
    go_wp2
    go_loopw [5] (fun i wr => ∃ k n : Nat, k ≤ len1 ∧ i = .int .i64 k ∧ wr = w.drewN n ∧ Fits len0 zs k) (fun i _ => len1 - (intOf i).toNat)
    case atStart => exact ⟨0, 0, Nat.zero_le _, rfl, rfl, ⟨fun i hi => by omega, fun i hi => by omega⟩⟩
    case round =>
      obtain ⟨k, n, hk, rfl, rfl, hf⟩ := hrel
      have HF : Hid (Fits len0 zs k) := hf
      clear hf
      by_cases hlt : k < len1
      · have hck := hcell k hlt
        have hst := fun a b c => HF.out.step (k := k) a b c
        obtain ⟨z, hzk⟩ : ∃ z, z = zs.getD k 0 := ⟨_, rfl⟩
        rw [← hzk] at hck hst
        have HST : Hid (0 ≤ z → z ≤ len0 → (∀ j, k = j + 1 → zs.getD j 0 ≤ z) → Fits len0 zs (k + 1)) := hst
        clear hst hzk
        by_cases hneg : z < 0
        · clear hcell
          go_wp2
          go_ret
          exact FitPost.no n
        · by_cases hbig : (len0 : Int) < z
          · clear hcell
            go_wp2
            go_ret
            exact FitPost.no n
          · cases k with
            | zero =>
              clear hcell
              rw [Nat.add_zero] at hck
              go_wp2
              go_quiet (fail)
              go_wp2
              go_roundw
              case rel => exact ⟨1, _, by omega, rfl, rfl, HST.out (by omega) (by omega) (fun j hj => by omega)⟩
              case measure => simp [intOf]; omega
            | succ j =>
              have hcj := hcell j (by omega)
              obtain ⟨y, hy⟩ : ∃ y, y = zs.getD j 0 := ⟨_, rfl⟩
              rw [← hy] at hcj
              have HY : Hid (y = zs.getD j 0) := hy
              clear hcell hy
              by_cases hord : z < y
              · go_wp2
                go_quiet (fail)
                go_wp2
                go_ret
                exact ⟨false, rfl, fun h => (by cases h), _, World.drewN_drewN ..⟩
              · go_wp2
                go_quiet (fail)
                go_wp2
                go_roundw
                case rel => exact ⟨j + 2, _, by omega, by go_num, rfl, HST.out (by omega) (by omega) (fun i hi => by have e : i = j := (by omega); rw [e, ← HY.out]; omega)⟩
                case measure => simp [intOf]; omega
      · go_wp2
        go_ret
        have : k = len1 := by omega
        subst this
        exact FitPost.yes n HF.out
end Go.Proofs.Qxb6600300a
