/-
  The two copies under one word each, nil or not.
-/
import Derived.Test.Qxb6600300aCounter
import Derived.Test.Qxb6600300aFit
namespace Go.Proofs.Qxb6600300a
open Go.RowKit

/-- What a copy leaves: a slice of the same numbers in a block of its own (nil stays nil); nothing that was there has turned. -/
def CopyPost (k : IntKind) (w : World) (len : Nat) (zs : List Int) (e : Ending) (w' : World) : Prop :=
  ∃ a, e = .returned (.slice a len len) ∧ Holds w'.heap.size k w' a len zs ∧ Below w.heap.size w w'

theorem copyBytes_any (a : Option Addr) (len cap : Nat) (zs : List Int) (w : World) (hl : len ≤ 1048576) (hn : a = none → len = 0 ∧ cap = 0)
    (hc : ∀ x, a = some x → ∀ i, i < len → w.cell? (x.add i) = some (.int .u8 (zs.getD i 0))) :
    Calls Try.prog 14 #[.slice a len cap] w fun e w' => CopyPost .u8 w len zs e w' := by
  cases a with
  | none =>
    obtain ⟨rfl, rfl⟩ := hn rfl
    refine (copyBytes_nil w).mono ?_
    rintro e w' ⟨rfl, rfl⟩
    exact ⟨none, rfl, Or.inl ⟨rfl, rfl⟩, Below.refl _ _⟩
  | some x =>
    refine (copyBytes_row x len cap zs w hl (hc x rfl)).mono ?_
    rintro e w' ⟨rfl, T, rfl, _, hT⟩
    exact ⟨_, rfl, Holds.of_alloc hT, (Below.refl _ _).alloc (Nat.le_refl _) _⟩

theorem copyInts_any (a : Option Addr) (len cap : Nat) (zs : List Int) (w : World) (hl : len ≤ 1048576) (hn : a = none → len = 0 ∧ cap = 0)
    (hc : ∀ x, a = some x → ∀ i, i < len → w.cell? (x.add i) = some (.int .i64 (zs.getD i 0))) :
    Calls Try.prog 15 #[.slice a len cap] w fun e w' => CopyPost .i64 w len zs e w' := by
  cases a with
  | none =>
    obtain ⟨rfl, rfl⟩ := hn rfl
    refine (copyInts_nil w).mono ?_
    rintro e w' ⟨rfl, rfl⟩
    exact ⟨none, rfl, Or.inl ⟨rfl, rfl⟩, Below.refl _ _⟩
  | some x =>
    refine (copyInts_row x len cap zs w hl (hc x rfl)).mono ?_
    rintro e w' ⟨rfl, T, rfl, _, hT⟩
    exact ⟨_, rfl, Holds.of_alloc hT, (Below.refl _ _).alloc (Nat.le_refl _) _⟩

/-- What the walks ask of a slice that came in. -/
def Came (k : IntKind) (w : World) (a : Option Addr) (len cap : Nat) (zs : List Int) : Prop :=
  (a = none → len = 0 ∧ cap = 0) ∧ (∀ x, a = some x → ∀ i, i < len → w.cell? (x.add i) = some (.int k (zs.getD i 0))) ∧ len ≤ zs.length

theorem Came.later {k : IntKind} {w w' : World} {a : Option Addr} {len cap : Nat} {zs : List Int} (h : Came k w a len cap zs) (hb : Below w.heap.size w w') : Came k w' a len cap zs :=
  ⟨h.1, fun x hx i hi => by
    have hc := h.2.1 x hx i hi
    rw [hb.cell (World.block_lt_of_cell? _ _ hc)]
    exact hc, h.2.2⟩

/-- The next number of a row that fits, as a natural number. -/
theorem Fits.at {n : Nat} {zs : List Int} {len k : Nat} (h : Fits n zs len) (hk : k < len) : ∃ q : Nat, zs.getD k 0 = (q : Int) ∧ q ≤ n := by
  obtain ⟨h0, h1⟩ := h.1 k hk
  obtain ⟨q, hq⟩ := Int.eq_ofNat_of_zero_le h0
  exact ⟨q, hq, by omega⟩

/-- p is not behind the k-th number. -/
def Next (zs : List Int) (len k p : Nat) : Prop := k < len → (p : Int) ≤ zs.getD k 0

theorem Next.start {n : Nat} {zs : List Int} {len : Nat} (h : Fits n zs len) : Next zs len 0 0 := fun hk => (h.1 0 hk).1

theorem Next.le {zs : List Int} {len k p q : Nat} (h : Next zs len k p) (hk : k < len) (hq : zs.getD k 0 = (q : Int)) : p ≤ q := by
  have := h hk
  omega

theorem Next.step {n : Nat} {zs : List Int} {len k q : Nat} (h : Fits n zs len) (_hk : k < len) (hq : zs.getD k 0 = (q : Int)) : Next zs len (k + 1) q := fun hk1 => by
  have := h.2 k hk1
  omega

end Go.Proofs.Qxb6600300a
