/-
  The contract of uuidRender: some text in the UUID form.
-/
import Derived.Test.Qxb6600787aSteps
import Derived.OpenShut
import Derived.Deep.OwnRows
import Derived.Deep.WholeRow
import Derived.Lib.SlBytesRow
namespace Go.Proofs.Qxb6600787a
open Go.RowKit

theorem info5 : (Try.prog.info? 5).map (fun i => (i.zero, i.size, i.bytes)) = some (some (.int .u8 0), 1, 1) := by kernel_rfl

/-- How many bytes stand behind k rounds. -/
def pos (k : Nat) : Nat := 2 * k + (if 4 < k then 1 else 0) + (if 6 < k then 1 else 0) + (if 8 < k then 1 else 0) + (if 10 < k then 1 else 0)

theorem pos_dash (k : Nat) (h : k = 4 ∨ k = 6 ∨ k = 8 ∨ k = 10) : pos (k + 1) = pos k + 3 ∧ dash (pos k) = true ∧ dash (pos k + 1) = false ∧ dash (pos k + 2) = false ∧ pos k + 3 ≤ 36 := by
  rcases h with rfl | rfl | rfl | rfl <;> decide

theorem pos_plain (k : Nat) (hk : k < 16) (h4 : ¬ k = 4) (h6 : ¬ k = 6) (h8 : ¬ k = 8) (h10 : ¬ k = 10) : pos (k + 1) = pos k + 2 ∧ dash (pos k) = false ∧ dash (pos k + 1) = false ∧ pos k + 2 ≤ 36 := by
  have key : ∀ m : Fin 16, ¬ m.val = 4 → ¬ m.val = 6 → ¬ m.val = 8 → ¬ m.val = 10 → pos (m.val + 1) = pos m.val + 2 ∧ dash (pos m.val) = false ∧ dash (pos m.val + 1) = false ∧ pos m.val + 2 ≤ 36 := by decide
  exact key ⟨k, hk⟩ h4 h6 h8 h10

theorem and15 (z : Int) (h0 : 0 ≤ z) (h1 : z ≤ 255) : 0 ≤ bits .and .u8 z 15 ∧ bits .and .u8 z 15 ≤ 15 := by
  obtain ⟨n, rfl⟩ := Int.eq_ofNat_of_zero_le h0
  have key : ∀ m : Fin 256, 0 ≤ bits .and .u8 (m.val : Int) 15 ∧ bits .and .u8 (m.val : Int) 15 ≤ 15 := by decide +kernel
  exact key ⟨n, by omega⟩

/-- What holds of the memory in a round: the array's box B, the bytes gathered so far in the row behind it. -/
def RInv (w0 : World) (B : Nat) (zs : List Int) (wr : World) (n : Nat) (bs : List Int) : Prop :=
  Below B w0 wr ∧ (∀ i, i < 16 → wr.cell? ⟨B, i, none⟩ = some (.int .u8 (zs.getD i 0))) ∧ bs.length = n ∧
  wr.ownsRow (B + 1) 5 1 (.slice (some ⟨B + 1, 0, none⟩) n 36) n (bs.map (Value.int .u8)) ∧ ∀ j, j < n → okAt j (bs.getD j 0) = true ∧ 0 ≤ bs.getD j 0 ∧ bs.getD j 0 ≤ 255

theorem RInv.push {w0 wr w1 : World} {B n : Nat} {zs bs : List Int} {x : Int} {O : Obj} (h : RInv w0 B zs wr n bs) (hB : B ≤ w0.heap.size) (hok : okAt n x = true) (h0 : 0 ≤ x) (h1 : x ≤ 255)
    (hown : w1.ownsRow (B + 1) 5 1 (.slice (some ⟨B + 1, 0, none⟩) (n + 1) 36) (n + 1) (bs.map (Value.int .u8) ++ [.int .u8 x])) (hg : (wr.alloc O).grownBy w1 (some (B + 1))) : RInv w0 B zs w1 (n + 1) (bs ++ [x]) := by
  obtain ⟨hb, hc, hl, _, hj⟩ := h
  have hsz : B ≤ wr.heap.size := Nat.le_trans hB hb.size
  have hlt : B < wr.heap.size := World.block_lt_of_cell? _ _ (hc 0 (by omega))
  refine ⟨(hb.alloc hsz O).grown hg (by simp; omega) (fun k e => by cases e; omega), fun i hi => ?_, by simp [hl], by simpa using hown, fun j hjn => ?_⟩
  · have e1 : w1.cell? ⟨B, i, none⟩ = (wr.alloc O).cell? ⟨B, i, none⟩ := World.cell?_of_block (hg.block B (by simp; omega) (fun e => by simp at e))
    rw [e1, World.cell?_alloc_lt _ _ _ hlt]
    exact hc i hi
  · by_cases e : j = n
    · subst e
      rw [List.getD_eq_getElem?_getD, List.getElem?_append_right (by omega), hl]
      simpa using ⟨hok, h0, h1⟩
    · have := hj j (by omega)
      rw [List.getD_eq_getElem?_getD] at this ⊢
      rw [List.getElem?_append_left (by omega)]
      exact this

/-- A number that fits a byte, through the byte and back. -/
theorem through (x : Int) (h0 : 0 ≤ x) (h1 : x ≤ 255) : ((x.toNat.toUInt8).toNat : Int) = x := by
  obtain ⟨n, rfl⟩ := Int.eq_ofNat_of_zero_le h0
  have key : ∀ m : Fin 256, ((((m.val : Int).toNat.toUInt8).toNat : Nat) : Int) = (m.val : Int) := by decide +kernel
  exact key ⟨n, by omega⟩

/-- The text of a list of numbers. -/
def textOf (bs : List Int) : ByteArray := ⟨(bs.map fun x => x.toNat.toUInt8).toArray⟩

theorem textOf_size (bs : List Int) : (textOf bs).size = bs.length := by
  show (bs.map fun x => x.toNat.toUInt8).toArray.size = _
  simp

theorem textOf_at (bs : List Int) (i : Nat) (hi : i < bs.length) (h0 : 0 ≤ bs.getD i 0) (h1 : bs.getD i 0 ≤ 255) : byteAt (textOf bs) i = bs.getD i 0 := by
  have e : (textOf bs).data.toList.getD i 0 = (bs.getD i 0).toNat.toUInt8 := by
    show (bs.map fun x => x.toNat.toUInt8).toArray.toList.getD i 0 = _
    simp [List.getD, hi]
  unfold byteAt
  rw [e]
  exact through _ h0 h1

theorem RInv.text {w0 wr : World} {B : Nat} {zs bs : List Int} (h : RInv w0 B zs wr 36 bs) : uuidB (textOf bs) = true ∧ Lib.Bytes wr (B + 1) 0 (textOf bs) := by
  obtain ⟨_, _, hl, hown, hj⟩ := h
  refine ⟨(uuid_iff _).2 ⟨by rw [textOf_size, hl], fun i hi => ?_⟩, fun i hi => ?_⟩
  · have := hj i hi
    rw [textOf_at bs i (by omega) this.2.1 this.2.2]
    exact this.1
  · rw [textOf_size, hl] at hi
    have := hj i hi
    rw [← byteAt_eq, textOf_at bs i (by omega) this.2.1 this.2.2, Nat.zero_add, hown.cellAt i (by omega), List.getElem?_map, List.getElem?_eq_getElem (by omega)]
    simp [List.getD, show i < bs.length by omega]

set_option maxHeartbeats 4000000 in
theorem render (X : Array Value) (zs : List Int) (up : Bool) (w : World) (hX : ∀ i, i < 16 → X[i]? = some (.int .u8 (zs.getD i 0))) (hr : ∀ i, i < 16 → 0 ≤ zs.getD i 0 ∧ zs.getD i 0 ≤ 255) :
    Calls Try.prog 13 #[.agg X, .bool up] w fun e w' => ∃ s, e = .returned (.string s) ∧ uuidB s = true ∧ Below w.heap.size w w' := by
  obtain ⟨i0, hi, hz0, hz1, hz2⟩ := info_parts info5
  have hmk : ∀ wx : World, (Instr.makeSlice 26 (.int .i64 0) (.int .i64 36)).run Try.prog wx = .ok (.slice (some ⟨wx.heap.size, 0, none⟩) 0 36) (wx.alloc (.cells (madeCells #[Value.int .u8 0] 36) 5)) := fun wx => by
    have h := run_make (P := Try.prog) wx 26 5 i0 (.int .u8 0) Try.underlying26 hi hz0 .i64 .i64 0 36 (by omega) (by omega) (by rw [hz2]; decide) (by omega)
    rw [hz1] at h
    exact h
  have hT : (madeCells #[Value.int .u8 0] 36).size = 36 := size_madeCells _ _
  generalize madeCells #[Value.int .u8 0] 36 = T0 at hmk hT
  have HSTART : Hid (RInv w w.heap.size zs ((w.alloc (.cells X 24)).alloc (.cells T0 5)) 0 []) := by
    refine ⟨((Below.refl _ _).alloc (Nat.le_refl _) _).alloc (by simp) _, fun i hi => ?_, rfl, ?_, fun j hj => by omega⟩
    · rw [World.cell?_alloc_lt _ _ _ (by simp), World.cell?_alloc_new]
      exact hX i hi
    · have h := World.ownsRow_made (e := 5) (size := 1) (base := w.heap.size + 1) (w.alloc (.cells X 24)) T0 36 (by simp) (by decide) (by rw [hT])
      simpa using h
  have HR : Hid (∀ i, i < 16 → 0 ≤ zs.getD i 0 ∧ zs.getD i 0 ≤ 255) := hr
  clear hX hr hT
  go_enter Try.func13, Try.ntmps13
  go_wp2
  clear hmk
  generalize hBdef : w.heap.size = B at *
  have hBw : Hid (B ≤ w.heap.size) := Nat.le_of_eq hBdef.symm
  go_loopw [5, 6] (fun v i wr => ∃ (k n : Nat) (bs : List Int), k ≤ 16 ∧ i = .int .i64 k ∧ n = pos k ∧ v = .slice (some ⟨B + 1, 0, none⟩) n 36 ∧ RInv w B zs wr n bs) (fun _ i _ => 16 - (intOf i).toNat)
  case atStart => exact ⟨0, 0, [], Nat.zero_le _, rfl, rfl, rfl, HSTART.out⟩
  case round =>
    obtain ⟨k, n, bs, hk, rfl, hn, rfl, hinv⟩ := hrel
    clear HSTART
    by_cases hlt : k < 16
    · obtain ⟨z, hz⟩ : ∃ z, z = zs.getD k 0 := ⟨_, rfl⟩
      have hck := hinv.2.1 k hlt
      have hzr := HR.out k hlt
      rw [← hz] at hck hzr
      obtain ⟨hzl, hzh⟩ := hzr
      have HZ : Hid (z = zs.getD k 0) := hz
      clear hz
      by_cases hd : k = 4 ∨ k = 6 ∨ k = 8 ∨ k = 10
      · obtain ⟨hp1, hp2, hp3, hp3', hp4⟩ := pos_dash k hd
        have HN : Hid (n = pos k) := hn
        clear hn
        have OK0 : Hid (okAt n 45 = true) := by show okAt n 45 = true; rw [ok_dash (by rw [HN.out]; exact hp2)]; rfl
        have OK1 : Hid (∀ x, okAt (n + 1) x = hexN x) := fun x => ok_hex (by rw [HN.out]; exact hp3)
        have OK2 : Hid (∀ x, okAt (n + 1 + 1) x = hexN x) := fun x => ok_hex (by rw [HN.out]; exact hp3')
        have hp4' : n + 3 ≤ 36 := by rw [HN.out]; exact hp4
        have HP : Hid (pos (k + 1) = pos k + 3) := hp1
        have hand : 0 ≤ bits .and .u8 z 15 ∧ bits .and .u8 z 15 ≤ 15 := and15 z hzl hzh
        obtain ⟨hand0, hand1⟩ := hand
        clear hp1 hp2 hp3 hp3' hp4
        rcases hd with h | h | h | h
        · have t4 : ((k : Int) == 4) = true := beq_iff_eq.2 (by omega)
          clear h
          go_wp2_with (at_builtin; refine wpList_append_fits _ rfl (.tmp 26) (.tmp 27) 26 rfl (B + 1) 5 i0 1 Try.underlying26 hi hz1 (B + 1) n 36 _ rfl (hinv.2.2.2.1.alloc _) _ 1 1 [.int .u8 45] rfl rfl (cell_one_new _ _ _) (fun u hu => by simp at hu; subst hu; rfl) (by omega) ?_; intro w2 hown2 hgr2; have hinv2 := hinv.push hBw.out OK0.out (by omega) (by omega) hown2 hgr2; have hck2 := hinv2.2.1 k hlt; rw [← HZ.out] at hck2; clear hown2 hgr2)
          refine (hexDigit _ _ _ (by omega) (by omega)).mono ?_
          rintro e w3 ⟨⟨x, rfl, x0, x1, xh⟩, hw⟩
          subst hw
          go_wp2_with (at_builtin; refine wpList_append_fits _ rfl (.tmp 29) (.tmp 36) 26 rfl (B + 1) 5 i0 1 Try.underlying26 hi hz1 (B + 1) (n + 1) 36 _ rfl (hinv2.2.2.2.1.alloc _) _ 1 1 [.int .u8 x] rfl rfl (cell_one_new _ _ _) (fun u hu => by simp at hu; subst hu; rfl) (by omega) ?_; intro w4 hown4 hgr4; have hinv4 := hinv2.push hBw.out (by rw [OK1.out]; exact xh) x0 x1 hown4 hgr4; have hck4 := hinv4.2.1 k hlt; rw [← HZ.out] at hck4; clear hown4 hgr4)
          refine (hexDigit _ _ _ (by omega) (by omega)).mono ?_
          rintro e w5 ⟨⟨y, rfl, y0, y1, yh⟩, hw⟩
          subst hw
          go_wp2_with (at_builtin; refine wpList_append_fits _ rfl (.tmp 38) (.tmp 45) 26 rfl (B + 1) 5 i0 1 Try.underlying26 hi hz1 (B + 1) (n + 1 + 1) 36 _ rfl (hinv4.2.2.2.1.alloc _) _ 1 1 [.int .u8 y] rfl rfl (cell_one_new _ _ _) (fun u hu => by simp at hu; subst hu; rfl) (by omega) ?_; intro w6 hown6 hgr6; have hinv6 := hinv4.push hBw.out (by rw [OK2.out]; exact yh) y0 y1 hown6 hgr6; have hck6 := hinv6.2.1 k hlt; rw [← HZ.out] at hck6; clear hown6 hgr6)
          go_roundw
          case rel => exact ⟨k + 1, n + 1 + 1 + 1, _, by omega, by go_num, by rw [HP.out, ← HN.out], rfl, hinv6⟩
          case measure => simp [intOf]; omega
        · have t4 : ((k : Int) == 4) = false := beq_eq_false_iff_ne.2 (by omega)
          have t6 : ((k : Int) == 6) = true := beq_iff_eq.2 (by omega)
          clear h
          go_wp2_with (at_builtin; refine wpList_append_fits _ rfl (.tmp 26) (.tmp 27) 26 rfl (B + 1) 5 i0 1 Try.underlying26 hi hz1 (B + 1) n 36 _ rfl (hinv.2.2.2.1.alloc _) _ 1 1 [.int .u8 45] rfl rfl (cell_one_new _ _ _) (fun u hu => by simp at hu; subst hu; rfl) (by omega) ?_; intro w2 hown2 hgr2; have hinv2 := hinv.push hBw.out OK0.out (by omega) (by omega) hown2 hgr2; have hck2 := hinv2.2.1 k hlt; rw [← HZ.out] at hck2; clear hown2 hgr2)
          refine (hexDigit _ _ _ (by omega) (by omega)).mono ?_
          rintro e w3 ⟨⟨x, rfl, x0, x1, xh⟩, hw⟩
          subst hw
          go_wp2_with (at_builtin; refine wpList_append_fits _ rfl (.tmp 29) (.tmp 36) 26 rfl (B + 1) 5 i0 1 Try.underlying26 hi hz1 (B + 1) (n + 1) 36 _ rfl (hinv2.2.2.2.1.alloc _) _ 1 1 [.int .u8 x] rfl rfl (cell_one_new _ _ _) (fun u hu => by simp at hu; subst hu; rfl) (by omega) ?_; intro w4 hown4 hgr4; have hinv4 := hinv2.push hBw.out (by rw [OK1.out]; exact xh) x0 x1 hown4 hgr4; have hck4 := hinv4.2.1 k hlt; rw [← HZ.out] at hck4; clear hown4 hgr4)
          refine (hexDigit _ _ _ (by omega) (by omega)).mono ?_
          rintro e w5 ⟨⟨y, rfl, y0, y1, yh⟩, hw⟩
          subst hw
          go_wp2_with (at_builtin; refine wpList_append_fits _ rfl (.tmp 38) (.tmp 45) 26 rfl (B + 1) 5 i0 1 Try.underlying26 hi hz1 (B + 1) (n + 1 + 1) 36 _ rfl (hinv4.2.2.2.1.alloc _) _ 1 1 [.int .u8 y] rfl rfl (cell_one_new _ _ _) (fun u hu => by simp at hu; subst hu; rfl) (by omega) ?_; intro w6 hown6 hgr6; have hinv6 := hinv4.push hBw.out (by rw [OK2.out]; exact yh) y0 y1 hown6 hgr6; have hck6 := hinv6.2.1 k hlt; rw [← HZ.out] at hck6; clear hown6 hgr6)
          go_roundw
          case rel => exact ⟨k + 1, n + 1 + 1 + 1, _, by omega, by go_num, by rw [HP.out, ← HN.out], rfl, hinv6⟩
          case measure => simp [intOf]; omega
        · have t4 : ((k : Int) == 4) = false := beq_eq_false_iff_ne.2 (by omega)
          have t6 : ((k : Int) == 6) = false := beq_eq_false_iff_ne.2 (by omega)
          have t8 : ((k : Int) == 8) = true := beq_iff_eq.2 (by omega)
          clear h
          go_wp2_with (at_builtin; refine wpList_append_fits _ rfl (.tmp 26) (.tmp 27) 26 rfl (B + 1) 5 i0 1 Try.underlying26 hi hz1 (B + 1) n 36 _ rfl (hinv.2.2.2.1.alloc _) _ 1 1 [.int .u8 45] rfl rfl (cell_one_new _ _ _) (fun u hu => by simp at hu; subst hu; rfl) (by omega) ?_; intro w2 hown2 hgr2; have hinv2 := hinv.push hBw.out OK0.out (by omega) (by omega) hown2 hgr2; have hck2 := hinv2.2.1 k hlt; rw [← HZ.out] at hck2; clear hown2 hgr2)
          refine (hexDigit _ _ _ (by omega) (by omega)).mono ?_
          rintro e w3 ⟨⟨x, rfl, x0, x1, xh⟩, hw⟩
          subst hw
          go_wp2_with (at_builtin; refine wpList_append_fits _ rfl (.tmp 29) (.tmp 36) 26 rfl (B + 1) 5 i0 1 Try.underlying26 hi hz1 (B + 1) (n + 1) 36 _ rfl (hinv2.2.2.2.1.alloc _) _ 1 1 [.int .u8 x] rfl rfl (cell_one_new _ _ _) (fun u hu => by simp at hu; subst hu; rfl) (by omega) ?_; intro w4 hown4 hgr4; have hinv4 := hinv2.push hBw.out (by rw [OK1.out]; exact xh) x0 x1 hown4 hgr4; have hck4 := hinv4.2.1 k hlt; rw [← HZ.out] at hck4; clear hown4 hgr4)
          refine (hexDigit _ _ _ (by omega) (by omega)).mono ?_
          rintro e w5 ⟨⟨y, rfl, y0, y1, yh⟩, hw⟩
          subst hw
          go_wp2_with (at_builtin; refine wpList_append_fits _ rfl (.tmp 38) (.tmp 45) 26 rfl (B + 1) 5 i0 1 Try.underlying26 hi hz1 (B + 1) (n + 1 + 1) 36 _ rfl (hinv4.2.2.2.1.alloc _) _ 1 1 [.int .u8 y] rfl rfl (cell_one_new _ _ _) (fun u hu => by simp at hu; subst hu; rfl) (by omega) ?_; intro w6 hown6 hgr6; have hinv6 := hinv4.push hBw.out (by rw [OK2.out]; exact yh) y0 y1 hown6 hgr6; have hck6 := hinv6.2.1 k hlt; rw [← HZ.out] at hck6; clear hown6 hgr6)
          go_roundw
          case rel => exact ⟨k + 1, n + 1 + 1 + 1, _, by omega, by go_num, by rw [HP.out, ← HN.out], rfl, hinv6⟩
          case measure => simp [intOf]; omega
        · have t4 : ((k : Int) == 4) = false := beq_eq_false_iff_ne.2 (by omega)
          have t6 : ((k : Int) == 6) = false := beq_eq_false_iff_ne.2 (by omega)
          have t8 : ((k : Int) == 8) = false := beq_eq_false_iff_ne.2 (by omega)
          have t10 : ((k : Int) == 10) = true := beq_iff_eq.2 (by omega)
          clear h
          go_wp2_with (at_builtin; refine wpList_append_fits _ rfl (.tmp 26) (.tmp 27) 26 rfl (B + 1) 5 i0 1 Try.underlying26 hi hz1 (B + 1) n 36 _ rfl (hinv.2.2.2.1.alloc _) _ 1 1 [.int .u8 45] rfl rfl (cell_one_new _ _ _) (fun u hu => by simp at hu; subst hu; rfl) (by omega) ?_; intro w2 hown2 hgr2; have hinv2 := hinv.push hBw.out OK0.out (by omega) (by omega) hown2 hgr2; have hck2 := hinv2.2.1 k hlt; rw [← HZ.out] at hck2; clear hown2 hgr2)
          refine (hexDigit _ _ _ (by omega) (by omega)).mono ?_
          rintro e w3 ⟨⟨x, rfl, x0, x1, xh⟩, hw⟩
          subst hw
          go_wp2_with (at_builtin; refine wpList_append_fits _ rfl (.tmp 29) (.tmp 36) 26 rfl (B + 1) 5 i0 1 Try.underlying26 hi hz1 (B + 1) (n + 1) 36 _ rfl (hinv2.2.2.2.1.alloc _) _ 1 1 [.int .u8 x] rfl rfl (cell_one_new _ _ _) (fun u hu => by simp at hu; subst hu; rfl) (by omega) ?_; intro w4 hown4 hgr4; have hinv4 := hinv2.push hBw.out (by rw [OK1.out]; exact xh) x0 x1 hown4 hgr4; have hck4 := hinv4.2.1 k hlt; rw [← HZ.out] at hck4; clear hown4 hgr4)
          refine (hexDigit _ _ _ (by omega) (by omega)).mono ?_
          rintro e w5 ⟨⟨y, rfl, y0, y1, yh⟩, hw⟩
          subst hw
          go_wp2_with (at_builtin; refine wpList_append_fits _ rfl (.tmp 38) (.tmp 45) 26 rfl (B + 1) 5 i0 1 Try.underlying26 hi hz1 (B + 1) (n + 1 + 1) 36 _ rfl (hinv4.2.2.2.1.alloc _) _ 1 1 [.int .u8 y] rfl rfl (cell_one_new _ _ _) (fun u hu => by simp at hu; subst hu; rfl) (by omega) ?_; intro w6 hown6 hgr6; have hinv6 := hinv4.push hBw.out (by rw [OK2.out]; exact yh) y0 y1 hown6 hgr6; have hck6 := hinv6.2.1 k hlt; rw [← HZ.out] at hck6; clear hown6 hgr6)
          go_roundw
          case rel => exact ⟨k + 1, n + 1 + 1 + 1, _, by omega, by go_num, by rw [HP.out, ← HN.out], rfl, hinv6⟩
          case measure => simp [intOf]; omega
      · obtain ⟨hp1, hp2, hp3, hp4⟩ := pos_plain k hlt (by omega) (by omega) (by omega) (by omega)
        have t4 : ((k : Int) == 4) = false := beq_eq_false_iff_ne.2 (by omega)
        have t6 : ((k : Int) == 6) = false := beq_eq_false_iff_ne.2 (by omega)
        have t8 : ((k : Int) == 8) = false := beq_eq_false_iff_ne.2 (by omega)
        have t10 : ((k : Int) == 10) = false := beq_eq_false_iff_ne.2 (by omega)
        clear hd
        have HN : Hid (n = pos k) := hn
        clear hn
        have OK1 : Hid (∀ x, okAt n x = hexN x) := fun x => ok_hex (by rw [HN.out]; exact hp2)
        have OK2 : Hid (∀ x, okAt (n + 1) x = hexN x) := fun x => ok_hex (by rw [HN.out]; exact hp3)
        have hp4' : n + 2 ≤ 36 := by rw [HN.out]; exact hp4
        have HP : Hid (pos (k + 1) = pos k + 2) := hp1
        have hand : 0 ≤ bits .and .u8 z 15 ∧ bits .and .u8 z 15 ≤ 15 := and15 z hzl hzh
        obtain ⟨hand0, hand1⟩ := hand
        clear hp1 hp2 hp3 hp4
        go_wp2_with fail
        refine (hexDigit _ _ _ (by omega) (by omega)).mono ?_
        rintro e w3 ⟨⟨x, rfl, x0, x1, xh⟩, hw⟩
        subst hw
        go_wp2_with (at_builtin; refine wpList_append_fits _ rfl (.tmp 29) (.tmp 36) 26 rfl (B + 1) 5 i0 1 Try.underlying26 hi hz1 (B + 1) n 36 _ rfl (hinv.2.2.2.1.alloc _) _ 1 1 [.int .u8 x] rfl rfl (cell_one_new _ _ _) (fun u hu => by simp at hu; subst hu; rfl) (by omega) ?_; intro w4 hown4 hgr4; have hinv4 := hinv.push hBw.out (by rw [OK1.out]; exact xh) x0 x1 hown4 hgr4; have hck4 := hinv4.2.1 k hlt; rw [← HZ.out] at hck4; clear hown4 hgr4)
        refine (hexDigit _ _ _ (by omega) (by omega)).mono ?_
        rintro e w5 ⟨⟨y, rfl, y0, y1, yh⟩, hw⟩
        subst hw
        go_wp2_with (at_builtin; refine wpList_append_fits _ rfl (.tmp 38) (.tmp 45) 26 rfl (B + 1) 5 i0 1 Try.underlying26 hi hz1 (B + 1) (n + 1) 36 _ rfl (hinv4.2.2.2.1.alloc _) _ 1 1 [.int .u8 y] rfl rfl (cell_one_new _ _ _) (fun u hu => by simp at hu; subst hu; rfl) (by omega) ?_; intro w6 hown6 hgr6; have hinv6 := hinv4.push hBw.out (by rw [OK2.out]; exact yh) y0 y1 hown6 hgr6; have hck6 := hinv6.2.1 k hlt; rw [← HZ.out] at hck6; clear hown6 hgr6)
        go_roundw
        case rel => exact ⟨k + 1, n + 1 + 1, _, by omega, by go_num, by rw [HP.out, ← HN.out], rfl, hinv6⟩
        case measure => simp [intOf]; omega
    · obtain rfl : k = 16 := by omega
      obtain rfl : n = 36 := by rw [hn]; decide
      obtain ⟨htx, hby⟩ := hinv.text
      have hsz := ((uuid_iff _).1 htx).1
      have hcv := Lib.run_convert_whole (P := Try.prog) wr 26 5 9 Try.underlying26 Try.underlying5 Try.underlying9 (B + 1) 0 (textOf bs) hby 36
      rw [hsz] at hcv
      generalize textOf bs = tx at hcv htx
      have HB : Hid (Below B w wr) := hinv.1
      have HT : Hid (uuidB tx = true) := htx
      clear hinv hn hby hsz htx
      go_wp2_with fail
      go_ret
      exact ⟨tx, rfl, HT.out, by rw [hBdef]; exact HB.out⟩
end Go.Proofs.Qxb6600787a
