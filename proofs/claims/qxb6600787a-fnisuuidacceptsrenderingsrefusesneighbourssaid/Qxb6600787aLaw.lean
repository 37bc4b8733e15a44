/-
  The walk of the law: renderings are accepted, their neighbours refused.
-/
import Derived.Test.Qxb6600787aRender
namespace Go.Proofs.Qxb6600787a
open Go.RowKit

theorem uuid_cut1 (s : ByteArray) (h : s.size = 36) : uuidB (s.extract 0 35) = false := uuid_size _ (by rw [ByteArray.size_extract]; omega)
theorem uuid_cut2 (s : ByteArray) (h : s.size = 36) : uuidB (s.extract 1 s.size) = false := uuid_size _ (by rw [ByteArray.size_extract]; omega)

/-- The text of one byte that was just laid. -/
theorem one_str (w : World) (k : Nat) (h : k ≤ 255) :
    (convert 26 9 (.slice (some ⟨w.heap.size, 0, none⟩) 1 1)).run Try.prog (w.alloc (.cells #[.int .u8 k] 5)) = .ok (.string (textOf [(k : Int)])) (w.alloc (.cells #[.int .u8 k] 5)) := by
  have hb : Lib.Bytes (w.alloc (.cells #[.int .u8 k] 5)) w.heap.size 0 (textOf [(k : Int)]) := fun i hi => by
    have hi' : i = 0 := by rw [textOf_size] at hi; simp at hi; exact hi
    subst hi'
    rw [← byteAt_eq, textOf_at _ 0 (by simp) (by simp) (by simp; omega), World.cell?_alloc_new]
    rfl
  have h := Lib.run_convert_whole (P := Try.prog) (w.alloc (.cells #[.int .u8 k] 5)) 26 5 9 Try.underlying26 Try.underlying5 Try.underlying9 w.heap.size 0 (textOf [(k : Int)]) hb 1
  rw [textOf_size] at h
  exact h

theorem uuid_long1 (s t : ByteArray) (hs : s.size = 36) (ht : t.size = 1) : uuidB (s ++ t) = false := uuid_size _ (by rw [ByteArray.size_append]; omega)
theorem uuid_long2 (s t : ByteArray) (hs : s.size = 36) (ht : t.size = 1) : uuidB (t ++ s) = false := uuid_size _ (by rw [ByteArray.size_append]; omega)

/-- The buffer's 36 cells, each free to be written. -/
def Buf (w : World) (G : Nat) (f : Nat → Int) : Prop := ∀ j, j < 36 → w.cell? ⟨G, j, none⟩ = some (.int .u8 (f j)) ∧ w.frozen? ⟨G, j, none⟩ = false

/-- f, but x at place k. -/
def upd (f : Nat → Int) (k : Nat) (x : Int) : Nat → Int := fun j => if j = k then x else f j

theorem upd_at (f : Nat → Int) (k : Nat) (x : Int) : upd f k x k = x := by unfold upd; rw [if_pos rfl]
theorem upd_off (f : Nat → Int) (k j : Nat) (x : Int) (h : ¬ j = k) : upd f k x j = f j := by unfold upd; rw [if_neg h]

theorem Buf.store {w : World} {G : Nat} {f : Nat → Int} {k : Nat} {x y : Int} (h : Buf w G (upd f k x)) : Buf (w.setCell ⟨G, k, none⟩ (.int .u8 y)) G (upd f k y) := fun j hj => by
  have hc := h j hj
  refine ⟨?_, by rw [World.frozen?_setCell]; exact hc.2⟩
  by_cases e : j = k
  · subst e
    rw [upd_at]
    exact World.cell?_setCell_same _ _ _ hc.1
  · rw [upd_off _ _ _ _ e, World.cell?_setCell_other _ _ _ _ (fun he => e (congrArg Addr.off he).symm), hc.1, upd_off _ _ _ _ e]

theorem Buf.same {w : World} {G : Nat} {f g : Nat → Int} (h : Buf w G f) (e : ∀ j, j < 36 → g j = f j) : Buf w G g := fun j hj => by
  rw [e j hj]
  exact h j hj

theorem Buf.split {w : World} {G : Nat} {f : Nat → Int} (k : Nat) (h : Buf w G f) : Buf w G (upd f k (f k)) := h.same fun j _ => by
  by_cases e : j = k
  · rw [e, upd_at]
  · rw [upd_off _ _ _ _ e]

theorem Buf.shut {w : World} {G : Nat} {f : Nat → Int} {k : Nat} (h : Buf w G (upd f k (f k))) : Buf w G f := h.same fun j _ => by
  by_cases e : j = k
  · rw [e, upd_at]
  · rw [upd_off _ _ _ _ e]

/-- []byte(text). -/
theorem bytes_of (w : World) (s : ByteArray) (hs : s.size = 36) : ∃ cap W, (convert 9 26 (.string s)).run Try.prog w = .ok (.slice (some ⟨w.heap.size, 0, none⟩) s.size cap) W ∧ Buf W w.heap.size (byteAt s) ∧ Below w.heap.size w W := by
  have h := run_bytes_of_string (P := Try.prog) w 9 26 5 s Try.underlying9 Try.underlying26 Try.underlying5
  refine ⟨_, _, h, fun j hj => ?_, ((Below.refl _ _).drew).alloc (Nat.le_refl _) _⟩
  generalize grownCap w s.size 0 5 = cap
  have hz : s.data.size = 36 := hs
  have hblk : (w.drew.alloc (.cells (bytesRow s cap) 5 ((bytesRow s cap).size, (bytesRow s cap).size + 1))).heap[w.heap.size]? = some (.cells (bytesRow s cap) 5 ((bytesRow s cap).size, (bytesRow s cap).size + 1)) := heap_alloc_new w.drew _
  have hat := bytesRow_at s cap j (by omega)
  have hlt : j < (bytesRow s cap).size := by
    rcases Nat.lt_or_ge j (bytesRow s cap).size with h' | h'
    · exact h'
    · rw [Array.getElem?_eq_none h'] at hat
      cases hat
  constructor
  · rw [byteAt_eq s j (by omega)]
    simp only [World.cell?, hblk, Option.isSome_none, Bool.false_eq_true, if_false]
    exact hat
  · simp only [World.frozen?, hblk]
    simp
    omega

/-- The text of the buffer. -/
def bufText (f : Nat → Int) : ByteArray := textOf ((List.range 36).map f)

theorem bufText_size (f : Nat → Int) : (bufText f).size = 36 := by unfold bufText; rw [textOf_size]; simp

theorem bufText_at (f : Nat → Int) (hr : ∀ j, j < 36 → 0 ≤ f j ∧ f j ≤ 255) (j : Nat) (hj : j < 36) : byteAt (bufText f) j = f j := by
  have e : ((List.range 36).map f).getD j 0 = f j := by
    rw [List.getD_eq_getElem?_getD, List.getElem?_map, List.getElem?_range hj]
    rfl
  have h := textOf_at ((List.range 36).map f) j (by simp; exact hj) (by rw [e]; exact (hr j hj).1) (by rw [e]; exact (hr j hj).2)
  rw [e] at h
  exact h

/-- string(buf). -/
theorem buf_str (w : World) (G cap : Nat) (f : Nat → Int) (n : Nat) (hn : n = 36) (hB : Buf w G f) (hr : ∀ j, j < 36 → 0 ≤ f j ∧ f j ≤ 255) :
    (convert 26 9 (.slice (some ⟨G, 0, none⟩) n cap)).run Try.prog w = .ok (.string (bufText f)) w := by
  have hb : Lib.Bytes w G 0 (bufText f) := fun i hi => by
    have hi' : i < 36 := by rw [bufText_size] at hi; exact hi
    rw [← byteAt_eq, bufText_at f hr i hi', Nat.zero_add]
    exact (hB i hi').1
  have h := Lib.run_convert_whole (P := Try.prog) w 26 5 9 Try.underlying26 Try.underlying5 Try.underlying9 G 0 (bufText f) hb cap
  rw [bufText_size] at h
  rw [hn]
  exact h

/-- The changed text is accepted just where what stands there now is of the kind that stood there. -/
theorem changed (s : ByteArray) (hs : uuidB s = true) (k : Nat) (hk : k < 36) (m : Int) (h0 : 0 ≤ m) (h1 : m ≤ 255) :
    uuidB (bufText (upd (byteAt s) k m)) = ((byteAt s k == 45 && m == 45) || (!(byteAt s k == 45) && hexN m)) := by
  have hr : ∀ j, j < 36 → 0 ≤ upd (byteAt s) k m j ∧ upd (byteAt s) k m j ≤ 255 := fun j _ => by
    by_cases e : j = k
    · rw [e, upd_at]; exact ⟨h0, h1⟩
    · rw [upd_off _ _ _ _ e]; exact byteAt_rng s j
  have hk1 : byteAt (bufText (upd (byteAt s) k m)) k = m := by rw [bufText_at _ hr k hk, upd_at]
  have h := uuid_changed s (bufText (upd (byteAt s) k m)) k hk hs (bufText_size _) (fun i hi hik => by rw [bufText_at _ hr i hi, upd_off _ _ _ _ hik])
  rw [hk1] at h
  exact h

theorem upd_rng (s : ByteArray) (k : Nat) (m : Int) (h0 : 0 ≤ m) (h1 : m ≤ 255) : ∀ j, j < 36 → 0 ≤ upd (byteAt s) k m j ∧ upd (byteAt s) k m j ≤ 255 := fun j _ => by
  by_cases e : j = k
  · rw [e, upd_at]; exact ⟨h0, h1⟩
  · rw [upd_off _ _ _ _ e]; exact byteAt_rng s j

set_option maxHeartbeats 4000000 in
set_option maxRecDepth 100000 in
theorem law (X : Array Value) (zs : List Int) (up : Bool) (w : World) (hXs : X.size = 16) (hX : ∀ i, i < 16 → X[i]? = some (.int .u8 (zs.getD i 0))) (hr : ∀ i, i < 16 → 0 ≤ zs.getD i 0 ∧ zs.getD i 0 ≤ 255) :
    Calls Try.prog 5 #[.agg X, .bool up] w fun e w' => e = .returned (.bool true) ∧ Below w.heap.size w w' := by
  have HI : Hid ((Try.prog.info? 24).map (·.size) = some X.size) := by
    show (Try.prog.info? 24).map (·.size) = some X.size
    rw [hXs]
    kernel_rfl
  have HX : Hid (∀ i, i < 16 → X[i]? = some (.int .u8 (zs.getD i 0))) := hX
  have HR : Hid (∀ i, i < 16 → 0 ≤ zs.getD i 0 ∧ zs.getD i 0 ≤ 255) := hr
  clear hX hr hXs
  go_enter Try.func5, Try.ntmps5
  go_wp2_with (refine wpList_load_row rfl 24 (.tmp 2) rfl w.heap.size rfl 24 X (0, 0) _ (heap_alloc_new w _) Try.underlying24 rfl HI.out ?_)
  refine (render X zs up _ HX.out HR.out).mono ?_
  rintro e w1 ⟨s, rfl, hs, hb⟩
  clear HI HX HR
  have hsz := ((uuid_iff s).1 hs).1
  have HSZ : Hid (s.size = 36) := hsz
  have hle : s.size ≤ 36 := by omega
  have hge : 36 ≤ s.size := by omega
  have b1 : Below w.heap.size w w1 := ((Below.refl _ _).alloc (Nat.le_refl _) _).trans (hb.mono (by simp))
  clear hsz hb
  go_wp2_with fail
  refine (zzIsUUID s _ (by omega)).mono ?_
  rintro e w2 ⟨rfl, hw⟩
  subst hw
  go_wp2_with fail
  have hu1 := uuid_cut1 s HSZ.out
  refine (zzIsUUID _ _ (by rw [ByteArray.size_extract]; omega)).mono ?_
  rintro e w3 ⟨rfl, hw⟩
  subst hw
  rw [hu1]
  go_wp2_with fail
  have hu2 := uuid_cut2 s HSZ.out
  refine (zzIsUUID _ _ (by rw [ByteArray.size_extract]; omega)).mono ?_
  rintro e w4 ⟨rfl, hw⟩
  subst hw
  rw [hu2]
  clear hu1 hu2
  go_wp2_with fail
  go_loopw [6] (fun c wr => ∃ k : Nat, k ≤ 256 ∧ c = .int .i64 k ∧ Below w.heap.size w wr) (fun c _ => 256 - (intOf c).toNat)
  case atStart => exact ⟨0, Nat.zero_le _, rfl, b1⟩
  case round =>
    obtain ⟨k, hk, rfl, hbr⟩ := hrel
    clear b1
    by_cases hlt : k < 256
    · have hone := one_str wr k (by omega)
      have hsz1 : (textOf [(k : Int)]).size = 1 := by rw [textOf_size]; rfl
      generalize textOf [(k : Int)] = t at hone hsz1
      have hl1 := uuid_long1 s t HSZ.out hsz1
      have hl2 := uuid_long2 s t HSZ.out hsz1
      have ht1 : t.size ≤ 1 := by omega
      have hsum1 : (s ++ t).size ≤ 1048576 := by rw [ByteArray.size_append]; omega
      have hsum2 : (t ++ s).size ≤ 1048576 := by rw [ByteArray.size_append]; omega
      clear hsz1
      go_wp2_with fail
      refine (zzIsUUID _ _ hsum1).mono ?_
      rintro e w5 ⟨rfl, hw⟩
      subst hw
      rw [hl1]
      clear hsum1 hl1
      go_wp2_with fail
      refine (zzIsUUID _ _ hsum2).mono ?_
      rintro e w6 ⟨rfl, hw⟩
      subst hw
      rw [hl2]
      clear hsum2 hl2
      go_wp2_with fail
      go_roundw
      case rel => exact ⟨k + 1, by omega, by go_num, hbr.alloc hbr.size _⟩
      case measure => simp [intOf]; omega
    · obtain ⟨cap, W, hconv, hbuf, hbW⟩ := bytes_of wr s HSZ.out
      have bW : Below w.heap.size w W := hbr.trans (hbW.mono hbr.size)
      have hG : w.heap.size ≤ wr.heap.size := hbr.size
      clear hbr hbW
      generalize wr.heap.size = G at *
      go_wp2_with fail
      clear hconv
      go_loopw [9] (fun i wx => ∃ k : Nat, k ≤ 36 ∧ i = .int .i64 k ∧ Buf wx G (byteAt s) ∧ Below w.heap.size w wx) (fun i _ => 36 - (intOf i).toNat)
      case atStart => exact ⟨0, Nat.zero_le _, rfl, hbuf, bW⟩
      case round =>
        obtain ⟨k, hk, rfl, hB, hBel⟩ := hrel
        clear hbuf bW
        by_cases hlt2 : k < 36
        · have hck := (hB k hlt2).1
          have hrng := byteAt_rng s k
          have HB0 : Hid (Buf wr G (upd (byteAt s) k (byteAt s k))) := hB.split k
          obtain ⟨o, ho⟩ : ∃ o, o = byteAt s k := ⟨_, rfl⟩
          have HO : Hid (o = byteAt s k) := ho
          rw [← ho] at hck hrng HB0
          clear ho hB
          have b45 : (o == 45) = true ∧ (o != 45) = false ∨ (o == 45) = false ∧ (o != 45) = true := by
            by_cases e : o = 45
            · exact Or.inl ⟨beq_iff_eq.2 e, by rw [e]; decide⟩
            · exact Or.inr ⟨beq_eq_false_iff_ne.2 e, by rw [bne_iff_ne]; exact e⟩
          go_wp2_with fail
          have hdk : ∀ i : Decidable ((k : Int) < 36), @decide ((k : Int) < 36) i = true := fun i => @decide_eq_true _ i (by omega)
          simp only [hdk]
          clear hdk
          go_loopw [11] (fun c wx => ∃ m : Nat, m ≤ 256 ∧ c = .int .i64 m ∧ (∃ x, Buf wx G (upd (byteAt s) k x)) ∧ Below w.heap.size w wx) (fun c _ => 256 - (intOf c).toNat)
          case atStart => exact ⟨0, Nat.zero_le _, rfl, ⟨o, HB0.out⟩, hBel⟩
          case round =>
            obtain ⟨m, hm, rfl, ⟨x, hB2⟩, hBel2⟩ := hrel
            clear HB0 hBel hck
            by_cases hltm : m < 256
            · have hck2 := (hB2 k hlt2).1
              have hfz2 := (hB2 k hlt2).2
              rw [upd_at] at hck2
              have HST : Hid (Buf (wr.setCell ⟨G, k, none⟩ (.int .u8 m)) G (upd (byteAt s) k m)) := hB2.store
              have HBS : Hid (Below w.heap.size w (wr.setCell ⟨G, k, none⟩ (.int .u8 m))) := hBel2.setCell (p := ⟨G, k, none⟩) hG _
              have hcv := buf_str _ G cap (upd (byteAt s) k m) s.size HSZ.out HST.out (upd_rng s k m (by omega) (by omega))
              have hu := changed s hs k hlt2 m (by omega) (by omega)
              rw [← HO.out] at hu
              have HTS : Hid ((bufText (upd (byteAt s) k m)).size ≤ 1048576) := by
                show (bufText (upd (byteAt s) k m)).size ≤ 1048576
                rw [bufText_size]
                omega
              generalize bufText (upd (byteAt s) k m) = tx at hcv hu HTS
              clear hB2 hBel2
              rcases b45 with ⟨h1, h2⟩ | ⟨h1, h2⟩
              · rw [h1] at hu
                cases hm45 : ((m : Int) == 45) with
                | true =>
                  rw [hm45] at hu
                  have HU : Hid (uuidB tx = true) := by rw [hu]; rfl
                  clear hu
                  go_wp2_with fail
                  refine (zzIsUUID _ _ HTS.out).mono ?_
                  rintro e w7 ⟨rfl, hw⟩
                  subst hw
                  rw [HU.out]
                  go_wp2_with fail
                  go_roundw
                  case rel => exact ⟨m + 1, by omega, by go_num, ⟨_, HST.out⟩, HBS.out⟩
                  case measure => simp [intOf]; omega
                | false =>
                  rw [hm45] at hu
                  have HU : Hid (uuidB tx = false) := by rw [hu]; rfl
                  clear hu
                  go_wp2_with fail
                  refine (zzIsUUID _ _ HTS.out).mono ?_
                  rintro e w7 ⟨rfl, hw⟩
                  subst hw
                  rw [HU.out]
                  go_wp2_with fail
                  go_roundw
                  case rel => exact ⟨m + 1, by omega, by go_num, ⟨_, HST.out⟩, HBS.out⟩
                  case measure => simp [intOf]; omega
              · rw [h1] at hu
                cases hh : hexN (m : Int) with
                | true =>
                  rw [hh] at hu
                  have HU : Hid (uuidB tx = true) := by rw [hu]; rfl
                  clear hu
                  go_wp2_with fail
                  refine (isHex _ _ (by omega) (by omega)).mono ?_
                  rintro e w6 ⟨rfl, hw⟩
                  subst hw
                  rw [hh]
                  go_wp2_with fail
                  refine (zzIsUUID _ _ HTS.out).mono ?_
                  rintro e w7 ⟨rfl, hw⟩
                  subst hw
                  rw [HU.out]
                  go_wp2_with fail
                  go_roundw
                  case rel => exact ⟨m + 1, by omega, by go_num, ⟨_, HST.out⟩, HBS.out⟩
                  case measure => simp [intOf]; omega
                | false =>
                  rw [hh] at hu
                  have HU : Hid (uuidB tx = false) := by rw [hu]; rfl
                  clear hu
                  go_wp2_with fail
                  refine (isHex _ _ (by omega) (by omega)).mono ?_
                  rintro e w6 ⟨rfl, hw⟩
                  subst hw
                  rw [hh]
                  go_wp2_with fail
                  refine (zzIsUUID _ _ HTS.out).mono ?_
                  rintro e w7 ⟨rfl, hw⟩
                  subst hw
                  rw [HU.out]
                  go_wp2_with fail
                  go_roundw
                  case rel => exact ⟨m + 1, by omega, by go_num, ⟨_, HST.out⟩, HBS.out⟩
                  case measure => simp [intOf]; omega
            · have hck2 := (hB2 k hlt2).1
              have hfz2 := (hB2 k hlt2).2
              rw [upd_at] at hck2
              have HST : Hid (Buf (wr.setCell ⟨G, k, none⟩ (.int .u8 o)) G (byteAt s)) := by
                have h : Buf (wr.setCell ⟨G, k, none⟩ (.int .u8 o)) G (upd (byteAt s) k o) := hB2.store
                rw [HO.out] at h ⊢
                exact h.shut
              have HBS : Hid (Below w.heap.size w (wr.setCell ⟨G, k, none⟩ (.int .u8 o))) := hBel2.setCell (p := ⟨G, k, none⟩) hG _
              clear hB2 hBel2 b45
              go_wp2_with fail
              go_roundw
              case rel => exact ⟨k + 1, by omega, by go_num, HST.out, HBS.out⟩
              case measure => simp [intOf]; omega
        · go_wp2_with fail
          go_ret
          exact ⟨rfl, hBel⟩
end Go.Proofs.Qxb6600787a
