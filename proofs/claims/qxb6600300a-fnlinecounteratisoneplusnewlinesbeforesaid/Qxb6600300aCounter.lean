/-
  The line counter by its meaning: asked at q it answers one plus the newlines among the first q bytes.
-/
import Derived.Test.Qxb6600300aAt
namespace Go.Proofs.Qxb6600300a
open Go.RowKit

/-- How many newlines stand among the first p bytes. -/
def nl (zs : List Int) (p : Nat) : Nat := Lib.countByte (Lib.bytesOf (zs.take p)) 10

theorem bytes_app (a b : List Int) : Lib.bytesOf (a ++ b) = Lib.bytesOf a ++ Lib.bytesOf b := by simp [Lib.bytesOf]

theorem nl_add (zs : List Int) (p q : Nat) (h : p ≤ q) : nl zs q = nl zs p + Lib.countByte (Lib.bytesOf ((zs.drop p).take (q - p))) 10 := by
  unfold nl
  have e : zs.take q = zs.take p ++ (zs.drop p).take (q - p) := by
    have := List.take_add (l := zs) (i := p) (j := q - p)
    rwa [show p + (q - p) = q from by omega] at this
  rw [e, bytes_app]
  unfold Lib.countByte
  rw [List.count_append]

theorem cut_le (zs : List Int) (p q : Nat) : Lib.countByte (Lib.bytesOf ((zs.drop p).take (q - p))) 10 ≤ q - p := by
  unfold Lib.countByte
  refine Nat.le_trans List.count_le_length ?_
  simp [Lib.bytesOf]
  omega

theorem nl_mono (zs : List Int) (p q : Nat) (h : p ≤ q) : nl zs p ≤ nl zs q ∧ nl zs q ≤ nl zs p + (q - p) := by
  have h1 := nl_add zs p q h
  have h2 := cut_le zs p q
  omega

theorem nl_zero (zs : List Int) : nl zs 0 = 0 := rfl

theorem nl_le (zs : List Int) (p : Nat) : nl zs p ≤ p := by
  have := nl_mono zs 0 p (Nat.zero_le _)
  rw [nl_zero] at this
  omega

/-- A slice of n numbers in a block of its own below B (or nil, of none). -/
def Holds (B : Nat) (k : IntKind) (w : World) (a : Option Addr) (n : Nat) (zs : List Int) : Prop :=
  (a = none ∧ n = 0) ∨ ∃ g, a = some ⟨g, 0, none⟩ ∧ g < B ∧ ∀ i, i < n → w.cell? ⟨g, i, none⟩ = some (.int k (zs.getD i 0))

theorem Holds.below {B : Nat} {k : IntKind} {w w' : World} {a : Option Addr} {n : Nat} {zs : List Int} (h : Holds B k w a n zs) (hb : Below B w w') : Holds B k w' a n zs := by
  rcases h with h | ⟨g, ha, hg, hc⟩
  · exact Or.inl h
  · exact Or.inr ⟨g, ha, hg, fun i hi => (hb.cell (p := ⟨g, i, none⟩) hg).trans (hc i hi)⟩

theorem Holds.mono {B B' : Nat} {k : IntKind} {w : World} {a : Option Addr} {n : Nat} {zs : List Int} (h : Holds B k w a n zs) (hB : B ≤ B') : Holds B' k w a n zs := by
  rcases h with h | ⟨g, ha, hg, hc⟩
  · exact Or.inl h
  · exact Or.inr ⟨g, ha, by omega, hc⟩

theorem Holds.of_alloc {k : IntKind} {w : World} {n : Nat} {zs : List Int} {T : Array Value} {t : TypeId} (h : ∀ i, i < n → T[i]? = some (.int k (zs.getD i 0))) :
    Holds (w.alloc (.cells T t)).heap.size k (w.alloc (.cells T t)) (some ⟨w.heap.size, 0, none⟩) n zs :=
  Or.inr ⟨w.heap.size, rfl, by simp, fun i hi => by rw [World.cell?_alloc_new]; exact h i hi⟩

/-- The counter's block. -/
def Cnt (w : World) (C : Nat) (ad : Option Addr) (len p m : Nat) : Prop :=
  w.heap[C]? = some (.cells #[.slice ad len len, .int .i64 p, .int .i64 m] 54 (0, 0))

theorem Cnt.set {w : World} {C : Nat} {ad : Option Addr} {len p m p' m' n : Nat} {O : Obj} (h : Cnt w C ad len p m) :
    Cnt ((((w.setCell ⟨C, 2, none⟩ (.int .i64 m')).setCell ⟨C, 1, none⟩ (.int .i64 p')).alloc O).drewN n) C ad len p' m' := by
  have hlt := lt_of_block h
  unfold Cnt at *
  rw [World.heap_drewN, Below.heap_alloc _ _ _ (by simpa using hlt)]
  simp only [World.setCell, Array.getElem?_modify, h]
  simp

theorem Cnt.below {w : World} {C : Nat} {u v : Value} {n : Nat} {O : Obj} (hC : C < w.heap.size) :
    Below C w ((((w.setCell ⟨C, 2, none⟩ u).setCell ⟨C, 1, none⟩ v).alloc O).drewN n) := by
  have h1 : Below C w ((w.setCell ⟨C, 2, none⟩ u).setCell ⟨C, 1, none⟩ v) := ((Below.refl C w).setCell (p := ⟨C, 2, none⟩) (Nat.le_refl _) u).setCell (p := ⟨C, 1, none⟩) (Nat.le_refl _) v
  have h2 := h1.alloc (by simp; omega) O
  exact h2.trans ⟨rfl, rfl, rfl, Nat.le_refl _, fun _ _ => rfl⟩

set_option maxHeartbeats 400000 in
theorem newCounter (a : Option Addr) (len cap : Nat) (w : World) :
    Calls Try.prog 17 #[.slice a len cap] w fun e w' => e = .returned (.pointer (some ⟨w.heap.size, 0, none⟩)) ∧ w' = w.alloc (.cells #[.slice a len cap, .int .i64 0, .int .i64 0] 54) := by
  go_enter Try.func17, Try.ntmps17
  go_wp2
  go_ret
  exact ⟨rfl, rfl⟩

theorem run_cut_nil (w : World) :
    (Instr.slice 31 (.slice none 0 0) (some (.int .i64 ((0 : Nat) : Int))) (some (.int .i64 ((0 : Nat) : Int))) none).run Try.prog w = .ok (.slice none (0 - 0) 0) w := by
  have ht : Try.prog.underlying 31 = some (.slice (Try.prog.elem 31)) := by kernel_rfl
  have hz : (sizeOf (Try.prog.elem 31)).run Try.prog w = .ok 1 w := by kernel_rfl
  rw [run_slice_lh (P := Try.prog) (w := w) 31 none 0 0 ht .i64 .i64 ((0 : Nat) : Int) ((0 : Nat) : Int) (by omega) (by omega) (by omega), hz]
  simp [Result.andThen, sliced]

theorem at_any (C len p q : Nat) (ad : Option Addr) (zs : List Int) (w : World) (hl : len ≤ 1048576) (hz : len ≤ zs.length) (hpq : p ≤ q) (hq : q ≤ len)
    (hH : Holds C .u8 w ad len zs) (hb : Cnt w C ad len p (nl zs p)) :
    Calls Try.prog 22 #[.pointer (some ⟨C, 0, none⟩), .int .i64 q] w fun e w' => e = .returned (.int .i64 ((nl zs q : Int) + 1)) ∧ Cnt w' C ad len q (nl zs q) ∧ Below C w w' := by
  have hC := lt_of_block hb
  have h0 : w.cell? ⟨C, 0, none⟩ = some (.slice ad len len) := by unfold Cnt at hb; simp [World.cell?, hb]
  have h1 : w.cell? ⟨C, 1, none⟩ = some (.int .i64 p) := by unfold Cnt at hb; simp [World.cell?, hb]
  have h2 : w.cell? ⟨C, 2, none⟩ = some (.int .i64 (nl zs p)) := by unfold Cnt at hb; simp [World.cell?, hb]
  have f1 : w.frozen? ⟨C, 1, none⟩ = false := by unfold Cnt at hb; simp [World.frozen?, hb]
  have f2 : w.frozen? ⟨C, 2, none⟩ = false := by unfold Cnt at hb; simp [World.frozen?, hb]
  have hle := nl_le zs p
  rcases hH with ⟨rfl, rfl⟩ | ⟨g, rfl, hg, hc⟩
  · obtain rfl : q = 0 := by omega
    obtain rfl : p = 0 := by omega
    refine (at_core C 0 0 0 (nl zs 0) 0 0 none none w (by omega) (by omega) h0 h1 h2 f1 f2 run_cut_nil (fun O g' hs => ?_)).mono ?_
    · exact (count_nil g' 1 _ (by simpa using hs))
    · rintro e w' ⟨rfl, n, rfl⟩
      exact ⟨rfl, Cnt.set hb, Cnt.below hC⟩
  · obtain ⟨hx, hcc⟩ := cut_cells hz hpq hq hc
    have hcut := cut_le zs p q
    have hadd := nl_add zs p q hpq
    refine (at_core C len p q (nl zs p) (Lib.countByte (Lib.bytesOf ((zs.drop p).take (q - p))) 10) (len - p) (some ⟨g, 0, none⟩) (some (cutAddr g p len)) w (by omega) (by omega) h0 h1 h2 f1 f2 (run_cut g len p q hpq hq) (fun O g' hs => ?_)).mono ?_
    · refine count_row (cutAddr g p len) (q - p) (len - p) g' 1 _ _ hx (fun i hi => ?_) (by simpa using hs)
      have h := hcc i hi
      show (w.alloc O).cell? _ = _
      rw [World.cell?_alloc_lt _ _ _ (World.block_lt_of_cell? _ _ h)]
      exact h
    · rintro e w' ⟨rfl, n, rfl⟩
      have e1 : ((nl zs p : Nat) : Int) + ((Lib.countByte (Lib.bytesOf ((zs.drop p).take (q - p))) 10 : Nat) : Int) = ((nl zs q : Nat) : Int) := by omega
      rw [e1]
      exact ⟨rfl, Cnt.set hb, Cnt.below hC⟩

set_option maxHeartbeats 400000 in
theorem zzAt (C len p q : Nat) (ad : Option Addr) (zs : List Int) (w : World) (hl : len ≤ 1048576) (hz : len ≤ zs.length) (hpq : p ≤ q) (hq : q ≤ len)
    (hH : Holds C .u8 w ad len zs) (hb : Cnt w C ad len p (nl zs p)) :
    Calls Try.prog 18 #[.pointer (some ⟨C, 0, none⟩), .int .i64 q] w fun e w' => e = .returned (.int .i64 ((nl zs q : Int) + 1)) ∧ Cnt w' C ad len q (nl zs q) ∧ Below C w w' := by
  go_enter Try.func18, Try.ntmps18
  go_wp2_with fail
  refine (at_any C len p q ad zs _ hl hz hpq hq hH hb).mono ?_
  rintro e w' ⟨rfl, h1, h2⟩
  go_wp2_with fail
  go_ret
  exact ⟨rfl, h1, h2⟩

end Go.Proofs.Qxb6600300a
