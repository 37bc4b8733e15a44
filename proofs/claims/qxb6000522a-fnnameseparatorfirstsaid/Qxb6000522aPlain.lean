/-
  The plain laws of the name separator: no Go in sight.
-/
import Derived.Lib.Bytealg
namespace Go.Proofs.Qxb6000522a

/-- A form letter: one of X O E D U I. -/
def isForm (c : UInt8) : Bool := decide (0 ≤ Lib.indexByte [88, 79, 69, 68, 85, 73] c)

/-- Does a separator stand at k: a colon followed by a form letter? -/
def sepB (s : ByteArray) (k : Nat) : Bool :=
  if h : k + 1 < s.size then ((s[k].toNat : Int) == 58) && isForm s[k + 1] else false

def nsepAux (s : ByteArray) : Nat → Nat → Nat
  | 0, _ => s.size
  | n + 1, i => if sepB s i = true then i else nsepAux s n (i + 1)

/-- The first separator at or behind f; the length where there is none. -/
def nsep (s : ByteArray) (f : Nat) : Nat := nsepAux s (s.size - f) f

theorem nsep_ge (s : ByteArray) (f : Nat) (h : s.size ≤ f) : nsep s f = s.size := by
  unfold nsep
  rw [Nat.sub_eq_zero_of_le h]
  rfl

theorem nsep_hit (s : ByteArray) (f : Nat) (h : f < s.size) (hs : sepB s f = true) : nsep s f = f := by
  unfold nsep
  obtain ⟨n, hn⟩ : ∃ n, s.size - f = n + 1 := ⟨s.size - f - 1, by omega⟩
  rw [hn, nsepAux, if_pos hs]

theorem nsep_miss (s : ByteArray) (f : Nat) (h : f < s.size) (hs : sepB s f = false) : nsep s f = nsep s (f + 1) := by
  unfold nsep
  obtain ⟨n, hn⟩ : ∃ n, s.size - f = n + 1 := ⟨s.size - f - 1, by omega⟩
  have hn' : s.size - (f + 1) = n := by omega
  rw [hn, hn', nsepAux, if_neg (by simp [hs])]

theorem nsep_spec (s : ByteArray) : ∀ (n f : Nat), s.size - f = n → f ≤ s.size →
    f ≤ nsep s f ∧ nsep s f ≤ s.size ∧ (∀ i, f ≤ i → i < nsep s f → sepB s i = false) ∧ (nsep s f < s.size → sepB s (nsep s f) = true) ∧ (∀ j, f ≤ j → j ≤ nsep s f → nsep s j = nsep s f)
  | 0, f, h, hf => by
    have e := nsep_ge s f (by omega)
    have hfs : f = s.size := by omega
    refine ⟨by omega, by omega, fun i h1 h2 => by omega, fun h => by omega, fun j h1 h2 => ?_⟩
    have : j = f := by omega
    rw [this]
  | n + 1, f, h, hf => by
    cases hs : sepB s f with
    | true =>
      have e := nsep_hit s f (by omega) hs
      rw [e]
      refine ⟨by omega, by omega, fun i h1 h2 => by omega, fun _ => hs, fun j h1 h2 => ?_⟩
      have : j = f := by omega
      rw [this, e]
    | false =>
      have e := nsep_miss s f (by omega) hs
      have ih := nsep_spec s n (f + 1) (by omega) (by omega)
      obtain ⟨a, b, c, d, g⟩ := ih
      rw [e]
      refine ⟨by omega, b, fun i h1 h2 => ?_, d, fun j h1 h2 => ?_⟩
      · by_cases hi : i = f
        · rw [hi]; exact hs
        · exact c i (by omega) h2
      · by_cases hj : j = f
        · rw [hj]; exact e
        · exact g j (by omega) h2

theorem form_no_colon (c : UInt8) (h : isForm c = true) : ¬ (c.toNat : Int) = 58 := by
  intro e
  have e1 : c.toNat = 58 := by omega
  have e2 : c = 58 := UInt8.toNat_inj.1 (by rw [e1]; rfl)
  rw [e2] at h
  revert h
  decide

theorem sep_next (s : ByteArray) (k : Nat) (h : sepB s k = true) : k + 1 < s.size ∧ sepB s (k + 1) = false := by
  unfold sepB at h
  split at h
  · rename_i h1
    refine ⟨h1, ?_⟩
    have hf : isForm s[k + 1] = true := by
      rw [Bool.and_eq_true] at h
      exact h.2
    have hn := form_no_colon _ hf
    unfold sepB
    split
    · have : ((s[k + 1].toNat : Int) == 58) = false := beq_eq_false_iff_ne.2 hn
      rw [this]
      rfl
    · rfl
  · cases h

theorem nsep_next (s : ByteArray) (f : Nat) (hf : f ≤ s.size) (h : nsep s f < s.size) : ¬ nsep s (nsep s f + 1) = nsep s f + 1 := by
  intro e
  have h1 := (nsep_spec s _ f rfl hf).2.2.2.1 h
  have h2 := sep_next s _ h1
  have h3 := (nsep_spec s _ (nsep s f + 1) rfl (by omega)).2.2.2.1 (by omega)
  rw [e] at h3
  rw [h3] at h2
  exact absurd h2.2 (by decide)

theorem form_cases (c : UInt8) : isForm c = true ↔ (c.toNat : Int) = 88 ∨ (c.toNat : Int) = 79 ∨ (c.toNat : Int) = 69 ∨ (c.toNat : Int) = 68 ∨ (c.toNat : Int) = 85 ∨ (c.toNat : Int) = 73 := by
  have key : ∀ n : Fin 256, isForm (UInt8.ofNat n.val) = true ↔ ((UInt8.ofNat n.val).toNat : Int) = 88 ∨ ((UInt8.ofNat n.val).toNat : Int) = 79 ∨ ((UInt8.ofNat n.val).toNat : Int) = 69 ∨ ((UInt8.ofNat n.val).toNat : Int) = 68 ∨ ((UInt8.ofNat n.val).toNat : Int) = 85 ∨ ((UInt8.ofNat n.val).toNat : Int) = 73 := by
    decide +kernel
  have h := key ⟨c.toNat, c.toNat_lt⟩
  simpa using h

end Go.Proofs.Qxb6000522a
