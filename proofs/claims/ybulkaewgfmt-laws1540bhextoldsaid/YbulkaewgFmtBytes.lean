/-
  zzs1540bhex walked; errors.New; newPktReader. By the prover of seat b1540aF.
-/
import Derived.Test.YbulkaewgFmtZero
import Derived.BigQuiet
import Derived.Deep.RegionWith
import Derived.OwnWalk
import Derived.Laws.BitsLemmas
namespace Go.Proofs.YbulkaewgFmt
open Go.RowKit

theorem Ybaf.info5 : (Ybaf.prog.info? 5).map (fun i => (i.zero, i.size, i.bytes)) = some (some (.int .u8 0), 1, 1) := by kernel_rfl

/-- a row of n bytes that the call made, at the head of the block g -/
def Byt (base g n : Nat) (bs : List Int) (w : World) : Prop := w.ownsRow base 5 1 (.slice (some ⟨g, 0, none⟩) n n) n (bs.map (Value.int .u8))

theorem Byt.len {base g n : Nat} {bs : List Int} {w : World} (h : Byt base g n bs w) : bs.length = n := by have := h.1; simpa using this
theorem Byt.cell {base g n : Nat} {bs : List Int} {w : World} (h : Byt base g n bs w) (k : Nat) (hk : k < n) : w.cell? ⟨g, k, none⟩ = some (.int .u8 (bs.getD k 0)) := by
  rw [World.ownsRow.cellAt h k (by omega)]
  have := h.len
  simp [show k < bs.length by omega]
theorem Byt.frz {base g n : Nat} {bs : List Int} {w : World} (h : Byt base g n bs w) (k : Nat) : w.frozen? ⟨g, k, none⟩ = false := World.ownsRow.frozenAt h k
theorem Byt.store {base g n : Nat} {bs : List Int} {w : World} (h : Byt base g n bs w) (k : Nat) (y : Int) : Byt base g n (bs.set k y) (w.setCell ⟨g, k, none⟩ (.int .u8 y)) := by
  have := (World.ownsRow.stored h k (.int .u8 y)).1
  unfold Byt
  rw [List.map_set]
  simpa using this
theorem Byt.lt' {base g n : Nat} {bs : List Int} {w : World} (h : Byt base g n bs w) : g < w.heap.size := (World.ownsRow.lt h g rfl).2

theorem and15 (x : Int) (h0 : 0 ≤ x) (h1 : x ≤ 65535) : bits .and .i64 x 15 = x % 16 := by
  have h := bits_mask .i64 62 (by decide) (fun n h₀ h₁ => by rw [IntKind.wrap_i64]; omega) 4 (by decide) x (by omega) (by omega)
  have e : ((2 : Int) ^ 4 - 1) = 15 := by decide
  have e2 : ((2 : Int) ^ 4) = 16 := by decide
  rw [e, e2] at h
  exact h

theorem and1 (x : Int) (h0 : 0 ≤ x) (h1 : x ≤ 255) : bits .and .u8 x 1 = x % 2 := by
  obtain ⟨n, rfl⟩ := Int.eq_ofNat_of_zero_le h0
  have hn : n < 256 := by omega
  have key : ∀ m : Fin 256, bits .and .u8 (m.val : Int) 1 = (m.val : Int) % 2 := by decide +kernel
  exact key ⟨n, hn⟩

/-- the digit d as its sign's byte -/
def hexN (up : Bool) (d : Nat) : Int := if d < 10 then 48 + d else if up then 55 + d else 87 + d
/-- the digit at place t of the four of v -/
def dig (v : Int) (t : Nat) : Nat := ((v / (16 : Int) ^ (3 - t)) % 16).toNat
def upB (u : Int) (t : Nat) : Bool := decide (u / (2 : Int) ^ t % 2 = 1)

theorem lo_at (d : Nat) (h : d < 16) (h' : d < (⟨#[48, 49, 50, 51, 52, 53, 54, 55, 56, 57, 97, 98, 99, 100, 101, 102]⟩ : ByteArray).size) : (((⟨#[48, 49, 50, 51, 52, 53, 54, 55, 56, 57, 97, 98, 99, 100, 101, 102]⟩ : ByteArray)[d]'h').toNat : Int) = hexN false d := by
  have key : ∀ m : Fin 16, (((#[48, 49, 50, 51, 52, 53, 54, 55, 56, 57, 97, 98, 99, 100, 101, 102] : Array UInt8)[m.val]'m.isLt).toNat : Int) = hexN false m.val := by decide +kernel
  exact key ⟨d, h⟩
theorem hi_at (d : Nat) (h : d < 16) (h' : d < (⟨#[48, 49, 50, 51, 52, 53, 54, 55, 56, 57, 65, 66, 67, 68, 69, 70]⟩ : ByteArray).size) : (((⟨#[48, 49, 50, 51, 52, 53, 54, 55, 56, 57, 65, 66, 67, 68, 69, 70]⟩ : ByteArray)[d]'h').toNat : Int) = hexN true d := by
  have key : ∀ m : Fin 16, (((#[48, 49, 50, 51, 52, 53, 54, 55, 56, 57, 65, 66, 67, 68, 69, 70] : Array UInt8)[m.val]'m.isLt).toNat : Int) = hexN true m.val := by decide +kernel
  exact key ⟨d, h⟩

theorem made_bytes {w w' : World} (h : w'.ownsRow w.heap.size 5 1 (.slice (some ⟨w.heap.size, 0, none⟩) 4 4) 4 (madeCells (Value.int .u8 0).cells (4 * 1)).toList) : Byt w.heap.size w.heap.size 4 [0, 0, 0, 0] w' := by
  have e : (madeCells (Value.int .u8 0).cells (4 * 1)).toList = [0, 0, 0, 0].map (Value.int .u8) := by kernel_rfl
  rw [e] at h
  exact h

/-- what zzs1540bhex leaves -/
def HPost (v u : Int) (w : World) (e : Ending) (w' : World) : Prop :=
  ∃ bs, e = .returned (.slice (some ⟨w.heap.size, 0, none⟩) 4 4) ∧ Byt w.heap.size w.heap.size 4 bs w' ∧ Below w.heap.size w w' ∧ ∀ t, t < 4 → bs.getD t 0 = hexN (upB u t) (dig v t)

theorem set_step {bs : List Int} {f : Nat → Int} {i : Nat} {y : Int} (hl : bs.length = 4) (h : ∀ t, t < i → bs.getD t 0 = f t) (hi : i < 4) (hy : y = f i) : ∀ t, t < i + 1 → (bs.set i y).getD t 0 = f t := by
  intro t ht
  by_cases e : t = i
  · subst e; simp [hl, hi, hy]
  · have := h t (by omega)
    simp only [List.getD_eq_getElem?_getD] at this ⊢
    rw [List.getElem?_set_ne (fun h => e h.symm)]
    exact this

set_option maxHeartbeats 4000000 in
set_option maxRecDepth 100000 in
theorem hex_calls (v u : Int) (w : World) (h0 : 0 ≤ v) (h1 : v ≤ 65535) (u0 : 0 ≤ u) (u1 : u ≤ 255) : Calls Ybaf.prog 7 #[.int .u16 v, .int .u8 u] w (HPost v u w) := by
  obtain ⟨i0, hi0, hz0, hz1, hz2⟩ := info_parts Ybaf.info5
  go_enter Ybaf.func7, Ybaf.ntmps7
  go_wp2_with (at_make; refine wpList_make_full _ rfl _ _ 22 rfl w.heap.size 5 i0 (.int .u8 0) 1 Ybaf.underlying22 hi0 hz0 hz1 _ _ _ _ 4 rfl rfl (by omega) (by omega) (by rw [hz2]; omega) (by unfold maxLen; omega) (Nat.le_refl _) ?_; intro w1 o1 g1)
  have B1 := made_bytes o1
  have bel1 : Below w.heap.size w w1 := (Below.refl _ _).grown g1 (Nat.le_refl _) (fun k hk => by cases hk)
  clear o1 g1
  go_loopw [8, 9] (fun s8 s9 wr => ∃ (i : Nat) (bs : List Int), s8 = .int .i64 i ∧ i ≤ 4 ∧ Byt w.heap.size w.heap.size 4 bs wr ∧ Below w.heap.size w wr ∧ ∀ t, t < i → bs.getD t 0 = hexN (upB u t) (dig v t)) (fun s8 _ _ => 4 - (intOf s8).toNat)
  case atStart => exact ⟨0, _, rfl, by omega, B1, bel1, fun t ht => by omega⟩
  case round =>
    obtain ⟨i, bs, rfl, hi, B, bel, hbs⟩ := hrel
    have HB : Hid (Byt w.heap.size w.heap.size 4 bs wr) := B
    have HBL : Hid (Below w.heap.size w wr) := bel
    have HBS : Hid (∀ t, t < i → bs.getD t 0 = hexN (upB u t) (dig v t)) := hbs
    clear B bel hbs B1 bel1
    by_cases hi4 : i < 4
    · have hcs : i = 0 ∨ i = 1 ∨ i = 2 ∨ i = 3 := by omega
      rcases hcs with rfl | rfl | rfl | rfl
      · obtain ⟨d, hd⟩ : ∃ d : Nat, dig v 0 = d := ⟨_, rfl⟩
        have hd1 : bits .and .i64 (v / 4096) 15 = (d : Int) := by
          rw [and15 _ (by omega) (by omega), ← hd]
          have e : ((16 : Int) ^ (3 - 0)) = 4096 := by decide
          simp only [dig, e]
          omega
        have hd2 : d < 16 := by rw [← hd]; simp only [dig]; omega
        have HD : Hid (dig v 0 = d) := hd
        clear hd
        have c0 := HB.out.cell 0 (by omega)
        have f0 := HB.out.frz 0
        have e2 : ((2 : Int) ^ 0) = 1 := by decide
        by_cases hup : (u) % 2 = 1
        · have hb : bits .and .u8 (u) 1 = 1 := by rw [and1 _ (by omega) (by omega)]; exact hup
          have HU : Hid (upB u 0 = true) := decide_eq_true (show u / (2 : Int) ^ 0 % 2 = 1 by rw [e2]; omega)
          clear hup e2
          go_wp2
          go_roundw
          case rel => exact ⟨0 + 1, _, by go_num, by omega, HB.out.store 0 _, HBL.out.setCell (Nat.le_refl _) _, set_step HB.out.len HBS.out (by omega) (by rw [hi_at d hd2, HU.out, HD.out])⟩
          case measure => simp [intOf]
        · have hb : bits .and .u8 (u) 1 = 0 := by rw [and1 _ (by omega) (by omega)]; omega
          have HU : Hid (upB u 0 = false) := decide_eq_false (show ¬ u / (2 : Int) ^ 0 % 2 = 1 by rw [e2]; omega)
          clear hup e2
          go_wp2
          go_roundw
          case rel => exact ⟨0 + 1, _, by go_num, by omega, HB.out.store 0 _, HBL.out.setCell (Nat.le_refl _) _, set_step HB.out.len HBS.out (by omega) (by rw [lo_at d hd2, HU.out, HD.out])⟩
          case measure => simp [intOf]
      · obtain ⟨d, hd⟩ : ∃ d : Nat, dig v 1 = d := ⟨_, rfl⟩
        have hd1 : bits .and .i64 (v / 256) 15 = (d : Int) := by
          rw [and15 _ (by omega) (by omega), ← hd]
          have e : ((16 : Int) ^ (3 - 1)) = 256 := by decide
          simp only [dig, e]
          omega
        have hd2 : d < 16 := by rw [← hd]; simp only [dig]; omega
        have HD : Hid (dig v 1 = d) := hd
        clear hd
        have c0 := HB.out.cell 1 (by omega)
        have f0 := HB.out.frz 1
        have e2 : ((2 : Int) ^ 1) = 2 := by decide
        by_cases hup : (u / 2) % 2 = 1
        · have hb : bits .and .u8 (u / 2) 1 = 1 := by rw [and1 _ (by omega) (by omega)]; exact hup
          have HU : Hid (upB u 1 = true) := decide_eq_true (show u / (2 : Int) ^ 1 % 2 = 1 by rw [e2]; omega)
          clear hup e2
          go_wp2
          go_roundw
          case rel => exact ⟨1 + 1, _, by go_num, by omega, HB.out.store 1 _, HBL.out.setCell (Nat.le_refl _) _, set_step HB.out.len HBS.out (by omega) (by rw [hi_at d hd2, HU.out, HD.out])⟩
          case measure => simp [intOf]
        · have hb : bits .and .u8 (u / 2) 1 = 0 := by rw [and1 _ (by omega) (by omega)]; omega
          have HU : Hid (upB u 1 = false) := decide_eq_false (show ¬ u / (2 : Int) ^ 1 % 2 = 1 by rw [e2]; omega)
          clear hup e2
          go_wp2
          go_roundw
          case rel => exact ⟨1 + 1, _, by go_num, by omega, HB.out.store 1 _, HBL.out.setCell (Nat.le_refl _) _, set_step HB.out.len HBS.out (by omega) (by rw [lo_at d hd2, HU.out, HD.out])⟩
          case measure => simp [intOf]
      · obtain ⟨d, hd⟩ : ∃ d : Nat, dig v 2 = d := ⟨_, rfl⟩
        have hd1 : bits .and .i64 (v / 16) 15 = (d : Int) := by
          rw [and15 _ (by omega) (by omega), ← hd]
          have e : ((16 : Int) ^ (3 - 2)) = 16 := by decide
          simp only [dig, e]
          omega
        have hd2 : d < 16 := by rw [← hd]; simp only [dig]; omega
        have HD : Hid (dig v 2 = d) := hd
        clear hd
        have c0 := HB.out.cell 2 (by omega)
        have f0 := HB.out.frz 2
        have e2 : ((2 : Int) ^ 2) = 4 := by decide
        by_cases hup : (u / 4) % 2 = 1
        · have hb : bits .and .u8 (u / 4) 1 = 1 := by rw [and1 _ (by omega) (by omega)]; exact hup
          have HU : Hid (upB u 2 = true) := decide_eq_true (show u / (2 : Int) ^ 2 % 2 = 1 by rw [e2]; omega)
          clear hup e2
          go_wp2
          go_roundw
          case rel => exact ⟨2 + 1, _, by go_num, by omega, HB.out.store 2 _, HBL.out.setCell (Nat.le_refl _) _, set_step HB.out.len HBS.out (by omega) (by rw [hi_at d hd2, HU.out, HD.out])⟩
          case measure => simp [intOf]
        · have hb : bits .and .u8 (u / 4) 1 = 0 := by rw [and1 _ (by omega) (by omega)]; omega
          have HU : Hid (upB u 2 = false) := decide_eq_false (show ¬ u / (2 : Int) ^ 2 % 2 = 1 by rw [e2]; omega)
          clear hup e2
          go_wp2
          go_roundw
          case rel => exact ⟨2 + 1, _, by go_num, by omega, HB.out.store 2 _, HBL.out.setCell (Nat.le_refl _) _, set_step HB.out.len HBS.out (by omega) (by rw [lo_at d hd2, HU.out, HD.out])⟩
          case measure => simp [intOf]
      · obtain ⟨d, hd⟩ : ∃ d : Nat, dig v 3 = d := ⟨_, rfl⟩
        have hd1 : bits .and .i64 (v) 15 = (d : Int) := by
          rw [and15 _ (by omega) (by omega), ← hd]
          have e : ((16 : Int) ^ (3 - 3)) = 1 := by decide
          simp only [dig, e]
          omega
        have hd2 : d < 16 := by rw [← hd]; simp only [dig]; omega
        have HD : Hid (dig v 3 = d) := hd
        clear hd
        have c0 := HB.out.cell 3 (by omega)
        have f0 := HB.out.frz 3
        have e2 : ((2 : Int) ^ 3) = 8 := by decide
        by_cases hup : (u / 8) % 2 = 1
        · have hb : bits .and .u8 (u / 8) 1 = 1 := by rw [and1 _ (by omega) (by omega)]; exact hup
          have HU : Hid (upB u 3 = true) := decide_eq_true (show u / (2 : Int) ^ 3 % 2 = 1 by rw [e2]; omega)
          clear hup e2
          go_wp2
          go_roundw
          case rel => exact ⟨3 + 1, _, by go_num, by omega, HB.out.store 3 _, HBL.out.setCell (Nat.le_refl _) _, set_step HB.out.len HBS.out (by omega) (by rw [hi_at d hd2, HU.out, HD.out])⟩
          case measure => simp [intOf]
        · have hb : bits .and .u8 (u / 8) 1 = 0 := by rw [and1 _ (by omega) (by omega)]; omega
          have HU : Hid (upB u 3 = false) := decide_eq_false (show ¬ u / (2 : Int) ^ 3 % 2 = 1 by rw [e2]; omega)
          clear hup e2
          go_wp2
          go_roundw
          case rel => exact ⟨3 + 1, _, by go_num, by omega, HB.out.store 3 _, HBL.out.setCell (Nat.le_refl _) _, set_step HB.out.len HBS.out (by omega) (by rw [lo_at d hd2, HU.out, HD.out])⟩
          case measure => simp [intOf]
    · obtain rfl : i = 4 := by omega
      go_wp2
      go_ret
      exact ⟨bs, rfl, HB.out, HBL.out, HBS.out⟩

set_option maxHeartbeats 1000000 in
theorem errnew_calls (s : ByteArray) (w : World) : Calls Ybaf.prog 8 #[.string s] w fun e w' => e = .returned (.iface 43 (.pointer (some ⟨w.heap.size, 0, none⟩))) ∧ w' = w.alloc (.cells #[.string s] 45) := by
  go_enter Ybaf.func8, Ybaf.ntmps8
  go_wp2
  go_ret
  exact ⟨rfl, rfl⟩

theorem heap_alloc_new' (w : World) (o : Obj) : (w.alloc o).heap[w.heap.size]? = some o := by
  show (w.heap.push o)[w.heap.size]? = some o
  simp

/-- the new pktReader's block: the reader, then the buffer of zeros -/
structure Pkt (r p : Nat) (w : World) : Prop where
  c0 : w.cell? ⟨p, 0, none⟩ = some (.iface 31 (.pointer (some ⟨r, 0, none⟩)))
  cb : ∀ j, j < 4 → ∃ b : Int, w.cell? ⟨p, 1 + j, none⟩ = some (.int .u8 b)
  fz : ∀ o, w.frozen? ⟨p, o, none⟩ = false

set_option maxHeartbeats 1000000 in
theorem newPkt_calls (r : Nat) (w : World) : Calls Ybaf.prog 9 #[.iface 31 (.pointer (some ⟨r, 0, none⟩))] w fun e w' => e = .returned (.pointer (some ⟨w.heap.size, 0, none⟩)) ∧ ∃ c, w' = w.alloc (.cells c 50) ∧ Pkt r w.heap.size w' := by
  obtain ⟨Z, hz, hne, h4, hj⟩ := zero50_ex
  have fin : Hid (Pkt r w.heap.size (w.alloc (.cells (Z.setIfInBounds 0 (.iface 31 (.pointer (some ⟨r, 0, none⟩)))) 50))) := by
    have hh : (w.alloc (.cells (Z.setIfInBounds 0 (.iface 31 (.pointer (some ⟨r, 0, none⟩)))) 50)).heap[w.heap.size]? = some (.cells (Z.setIfInBounds 0 (.iface 31 (.pointer (some ⟨r, 0, none⟩)))) 50 (0, 0)) := heap_alloc_new' _ _
    refine ⟨?_, ?_, ?_⟩
    · rw [cell_of_row _ _ _ _ _ _ hh]
      simp [show 0 < Z.size by omega]
    · intro j hj4
      refine ⟨0, ?_⟩
      rw [cell_of_row _ _ _ _ _ _ hh, Array.getElem?_setIfInBounds_ne (by omega)]
      exact hj j hj4
    · intro o
      exact frozen_of_row _ _ _ _ _ hh
  clear hj
  go_enter Ybaf.func9, Ybaf.ntmps9
  go_wp2
  go_ret
  exact ⟨rfl, _, rfl, fin.out⟩
end Go.Proofs.YbulkaewgFmt
