/-
  The plain laws of the UUID text form: no Go in sight.
-/
import Derived.Lib.Bytealg
namespace Go.Proofs.Qxb6600787a

/-- strings.IndexByte at the hex digits of either case. -/
def hexI (c : Int) : Int := Lib.indexByte [48, 49, 50, 51, 52, 53, 54, 55, 56, 57, 97, 98, 99, 100, 101, 102, 65, 66, 67, 68, 69, 70] c.toNat.toUInt8

/-- A hex digit of either case, told by its number. -/
def hexN (c : Int) : Bool := decide (0 ≤ hexI c)

theorem hex_cases (c : Int) (h0 : 0 ≤ c) (h1 : c ≤ 255) : hexN c = decide ((48 ≤ c ∧ c ≤ 57) ∨ (97 ≤ c ∧ c ≤ 102) ∨ (65 ≤ c ∧ c ≤ 70)) := by
  obtain ⟨n, rfl⟩ := Int.eq_ofNat_of_zero_le h0
  have key : ∀ m : Fin 256, hexN (m.val : Int) = decide ((48 ≤ (m.val : Int) ∧ (m.val : Int) ≤ 57) ∨ (97 ≤ (m.val : Int) ∧ (m.val : Int) ≤ 102) ∨ (65 ≤ (m.val : Int) ∧ (m.val : Int) ≤ 70)) := by decide +kernel
  exact key ⟨n, by omega⟩

/-- The places of the dashes. -/
def dash (i : Nat) : Bool := i == 8 || i == 13 || i == 18 || i == 23

/-- What may stand at place i. -/
def okAt (i : Nat) (c : Int) : Bool := if dash i = true then c == 45 else hexN c

theorem dash_ne {i : Nat} (h : dash i = false) : ¬ i = 8 ∧ ¬ i = 13 ∧ ¬ i = 18 ∧ ¬ i = 23 := by
  unfold dash at h
  simp at h
  omega

theorem ok_dash {i : Nat} {c : Int} (h : dash i = true) : okAt i c = (c == 45) := by unfold okAt; rw [if_pos h]
theorem ok_hex {i : Nat} {c : Int} (h : dash i = false) : okAt i c = hexN c := by unfold okAt; rw [if_neg (by rw [h]; decide)]

/-- The byte at place i, as a number. -/
def byteAt (s : ByteArray) (i : Nat) : Int := ((s.data.toList.getD i 0).toNat : Int)

theorem byteAt_eq (s : ByteArray) (i : Nat) (h : i < s.size) : byteAt s i = (s[i].toNat : Int) := by
  unfold byteAt
  have hl : i < s.data.toList.length := by simpa using h
  rw [List.getD_eq_getElem?_getD, List.getElem?_eq_getElem hl]
  rfl

theorem byteAt_rng (s : ByteArray) (i : Nat) : 0 ≤ byteAt s i ∧ byteAt s i ≤ 255 := by
  unfold byteAt
  have := (s.data.toList.getD i 0).toNat_lt
  omega

/-- The text form: 36 bytes, dashes in their places, hex digits in the others. -/
def uuidB (s : ByteArray) : Bool := decide (s.size = 36) && (List.range 36).all fun i => okAt i (byteAt s i)

theorem uuid_iff (s : ByteArray) : uuidB s = true ↔ s.size = 36 ∧ ∀ i, i < 36 → okAt i (byteAt s i) = true := by
  unfold uuidB
  rw [Bool.and_eq_true, decide_eq_true_eq, List.all_eq_true]
  exact and_congr_right fun _ => ⟨fun h i hi => h i (List.mem_range.2 hi), fun h i hi => h i (List.mem_range.1 hi)⟩

theorem uuid_size (s : ByteArray) (h : ¬ s.size = 36) : uuidB s = false := by
  cases hb : uuidB s with
  | false => rfl
  | true => exact absurd ((uuid_iff s).1 hb).1 h

theorem uuid_bad (s : ByteArray) (i : Nat) (hi : i < 36) (h : okAt i (byteAt s i) = false) : uuidB s = false := by
  cases hb : uuidB s with
  | false => rfl
  | true =>
    have := ((uuid_iff s).1 hb).2 i hi
    rw [h] at this
    cases this

/-- A text in which one place was changed. -/
theorem uuid_changed (s t : ByteArray) (k : Nat) (hk : k < 36) (hs : uuidB s = true) (ht : t.size = 36) (hsame : ∀ i, i < 36 → ¬ i = k → byteAt t i = byteAt s i) :
    uuidB t = ((byteAt s k == 45 && byteAt t k == 45) || (!(byteAt s k == 45) && hexN (byteAt t k))) := by
  have h := (uuid_iff s).1 hs
  have e : uuidB t = okAt k (byteAt t k) := by
    cases hb : okAt k (byteAt t k) with
    | false => exact uuid_bad t k hk hb
    | true =>
      refine (uuid_iff t).2 ⟨ht, fun i hi => ?_⟩
      by_cases hik : i = k
      · rw [hik]; exact hb
      · rw [hsame i hi hik]; exact h.2 i hi
  rw [e]
  have hok := h.2 k hk
  cases hd : dash k with
  | true =>
    rw [ok_dash hd] at hok ⊢
    rw [hok]
    simp
  | false =>
    rw [ok_hex hd] at hok ⊢
    have hr := byteAt_rng s k
    rw [hex_cases _ hr.1 hr.2, decide_eq_true_eq] at hok
    have hne : (byteAt s k == 45) = false := beq_eq_false_iff_ne.2 (by omega)
    rw [hne]
    simp

end Go.Proofs.Qxb6600787a
