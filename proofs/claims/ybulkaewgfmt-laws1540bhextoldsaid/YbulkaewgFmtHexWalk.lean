/-
  LawS1540BHex walked. By the prover of seat b1540aF.
-/
import Derived.Test.YbulkaewgFmtCheckAll
import Derived.Laws.AppendOwn
namespace Go.Proofs.YbulkaewgFmt
open Go.RowKit Go.Extern.Stop Go.Stop Go.Extern

/-- the row of bytes so far: whatever slice holds it -/
def Own (base n : Nat) (v : Value) (xs : List Int) (w : World) : Prop := w.ownsRow base 5 1 v n (xs.map (Value.int .u8)) ∧ ∀ x ∈ xs, 0 ≤ x ∧ x < 256

theorem Own.alloc {base n : Nat} {v : Value} {xs : List Int} {w : World} (h : Own base n v xs w) (o : Obj) : (w.alloc o).ownsRow base 5 1 v n (xs.map (Value.int .u8)) := by
  obtain ⟨⟨hl, h⟩, _⟩ := h
  refine ⟨hl, ?_⟩
  rcases h with h | ⟨g, cap, cur, e, hb, hg, r⟩
  · exact Or.inl h
  · exact Or.inr ⟨g, cap, cur, e, hb, (Below.heap_alloc _ _ _ (lt_of_block hg)).trans hg, r⟩
theorem Own.base {base n : Nat} {v : Value} {xs : List Int} {w : World} (h : Own base n v xs w) (k : Nat) (hk : v.ownBlock = some k) : base ≤ k := by
  obtain ⟨⟨hl, h⟩, _⟩ := h
  rcases h with ⟨rfl, _⟩ | ⟨g, cap, cur, rfl, hb, hg, r⟩
  · cases hk
  · cases hk; exact hb
theorem Own.next {base n : Nat} {v : Value} {xs : List Int} {w : World} (hx : ∀ x ∈ xs, 0 ≤ x ∧ x < 256) (h : w.ownsRow base 5 1 v (n + 1) (xs.map (Value.int .u8) ++ [.int .u8 120])) : Own base (n + 1) v (xs ++ [120]) w := by
  refine ⟨by rw [List.map_append]; exact h, fun x hm => ?_⟩
  rcases List.mem_append.1 hm with h | h
  · exact hx x h
  · simp at h; omega
/-- the slice, its cells -/
theorem Own.row {base n : Nat} {v : Value} {xs : List Int} {w : World} (h : Own base n v xs w) (hn : 0 < n) : ∃ g cap, v = .slice (some ⟨g, 0, none⟩) n cap ∧ n ≤ cap ∧ g < w.heap.size ∧ (∀ j, j < n → w.cell? ⟨g, j, none⟩ = some (.int .u8 (xs.getD j 0))) ∧ ∀ j, j < n → 0 ≤ xs.getD j 0 ∧ xs.getD j 0 < 256 := by
  obtain ⟨⟨hl, h⟩, hx⟩ := h
  have hl' : xs.length = n := by simpa using hl
  rcases h with ⟨rfl, h0⟩ | ⟨g, cap, cur, rfl, hb, hg, r1, r2, r3, r4⟩
  · omega
  · refine ⟨g, cap, rfl, r1, lt_of_block hg, fun j hj => ?_, fun j hj => ?_⟩
    · rw [cell_of_row _ _ _ _ _ _ hg]
      have e : (cur.toList.take (n * 1))[j]? = (xs.map (Value.int .u8))[j]? := by rw [r4]
      rw [List.getElem?_take_of_lt (by omega)] at e
      rw [← Array.getElem?_toList, e]
      simp [show j < xs.length by omega]
    · have hj' : j < xs.length := by omega
      have e : xs.getD j 0 = xs[j] := by simp [hj']
      rw [e]
      exact hx _ (List.getElem_mem hj')

theorem hexN_byte (up : Bool) (d : Nat) (h : d < 16) : 0 ≤ hexN up d ∧ hexN up d < 256 := by
  unfold hexN
  split
  · omega
  · split <;> omega
theorem dig_lt (v : Int) (t : Nat) : dig v t < 16 := by unfold dig; omega

theorem own_of_hex {w w2 : World} {v u : Int} {bs : List Int} (B : Byt w.heap.size w.heap.size 4 bs w2) (hbs : ∀ t, t < 4 → bs.getD t 0 = hexN (upB u t) (dig v t)) : Own w.heap.size (4 + 0) (.slice (some ⟨w.heap.size, 0, none⟩) 4 4) bs w2 := by
  refine ⟨B, fun x hx => ?_⟩
  obtain ⟨j, hj, rfl⟩ := List.mem_iff_getElem.1 hx
  have hl := B.len
  have := hbs j (by omega)
  have e : bs.getD j 0 = bs[j] := by simp [hj]
  rw [← e, this]
  exact hexN_byte _ _ (dig_lt _ _)

set_option maxHeartbeats 4000000 in
set_option maxRecDepth 100000 in
theorem hex_walk (F : Interp) (vv u t ch : Int) (a0 a2 a3 : Addr) (w : World) (v : Vars a0 a2 a3 w) (hF : F.answers w.tape) (v0 : 0 ≤ vv) (v1 : vv ≤ 65535) (u0 : 0 ≤ u) (u1 : u ≤ 255) (t0 : 0 ≤ t) (t1 : t ≤ 255) (d0 : 0 ≤ ch) (d1 : ch ≤ 255) :
    Calls Ybaf.prog 4 #[.int .u16 vv, .int .u8 u, .int .u8 t, .int .u8 ch] w fun e w' => e = .returned (.bool true) ∧ Below w.heap.size w w' := by
  have HVV : Hid (Vars a0 a2 a3 w) := v
  have HF : Hid (F.answers w.tape) := hF
  clear v hF
  obtain ⟨k0, hk0⟩ : ∃ k0 : Nat, ch % 5 = (k0 : Int) := Int.eq_ofNat_of_zero_le (Int.emod_nonneg _ (by omega))
  have hk4 : k0 ≤ 4 := by omega
  obtain ⟨k, hk⟩ : ∃ k : Nat, (k0 : Int) + 1 = (k : Int) := ⟨k0 + 1, by omega⟩
  obtain ⟨m, hm⟩ : ∃ m : Nat, t % 8 = (m : Int) := Int.eq_ofNat_of_zero_le (Int.emod_nonneg _ (by omega))
  have hm7 : m ≤ 7 := by omega
  go_enter Ybaf.func4, Ybaf.ntmps4
  go_wp2_with fail
  refine (hex_calls vv u _ v0 v1 u0 u1).mono ?_
  rintro e w2 ⟨bs, rfl, B, bel, hbs⟩
  have HB : Hid (Own w.heap.size (4 + 0) (.slice (some ⟨w.heap.size, 0, none⟩) 4 4) bs w2) := own_of_hex B hbs
  have HBL : Hid (Below w.heap.size w w2) := bel
  clear B bel hbs
  obtain ⟨i0, hi0, hz0, hz1, hz2⟩ := info_parts Ybaf.info5
  go_wp2_with fail
  rw [hm]
  clear hm
  go_loopw [9, 11] (fun s9 s11 wr => ∃ (i : Nat) (xs : List Int), s11 = .int .i64 i ∧ i ≤ m ∧ Own w.heap.size (4 + i) s9 xs wr ∧ Below w.heap.size w wr) (fun _ s11 _ => m - (intOf s11).toNat)
  case atStart => exact ⟨0, bs, rfl, by omega, HB.out, HBL.out⟩
  case round =>
    obtain ⟨i, xs, rfl, hi, own, bel⟩ := hrel
    have OW : Hid (Own w.heap.size (4 + i) u9 xs wr) := own
    have BE : Hid (Below w.heap.size w wr) := bel
    clear own bel HB HBL
    by_cases him : i < m
    · have hle : w.heap.size ≤ wr.heap.size := BE.out.size
      have hnews : Hid (∀ (j : Nat) (u : Value), [Value.int .u8 120][j]? = some u → (wr.alloc (.cells #[.int .u8 120] 5)).cell? (Addr.add ⟨wr.heap.size, 0, none⟩ j) = some u) := by
        intro j u hj
        match j, hj with
        | 0, hj =>
          cases hj
          show (wr.alloc (.cells #[.int .u8 120] 5)).cell? ⟨wr.heap.size, 0 + 0, none⟩ = _
          rw [cell_of_row _ _ _ _ _ _ (heap_alloc_new' wr (.cells #[.int .u8 120] 5))]; rfl
        | j + 1, hj => cases hj
      go_wp2_with (at_builtin; refine wpList_append_own _ rfl (.tmp 23) (.tmp 24) 22 rfl w.heap.size 5 i0 (.int .u8 0) 1 1 Ybaf.underlying22 hi0 hz0 hz1 hz2 rfl (by omega) u9 (4 + i) (xs.map (Value.int .u8)) rfl (OW.out.alloc _) ⟨wr.heap.size, 0, none⟩ 1 1 [.int .u8 120] rfl rfl hnews.out (fun u hu => by simp at hu; subst hu; rfl) (by unfold maxLen; omega) (by omega) (by simp; omega) ?_; intro v2 w3 h2 h3 h4)
      all_goals go_roundw
      case rel => exact ⟨i + 1, xs ++ [120], by go_num, by omega, Own.next OW.out.2 h2, (BE.out.alloc hle _).grown h3 (by simp; omega) OW.out.base⟩
      case measure => (simp [intOf]; omega)
    · obtain rfl : i = m := by omega
      obtain ⟨g, cap, rfl, hcap, hg, hdat, hbyte⟩ := OW.out.row (by omega)
      have HC : Hid (Calls Ybaf.prog 6 #[.slice (some ⟨g, 0, none⟩) (4 + i) cap, .int .i64 k] wr fun e w' => e = .returned (.bool true) ∧ Below wr.heap.size wr w') := check_calls F g (4 + i) cap k xs a0 a2 a3 wr (HVV.out.below BE.out) (by rw [BE.out.tape]; exact HF.out) (by omega) hcap (by omega) (by omega) hg hdat hbyte
      clear hdat hbyte
      go_wp2_with fail
      refine HC.out.mono ?_
      rintro e w3 ⟨rfl, bel3⟩
      have BL : Hid (Below w.heap.size w w3) := BE.out.trans ⟨bel3.os, bel3.tape, bel3.output, bel3.size, fun k hk => bel3.block k (by have := BE.out.size; omega)⟩
      clear bel3
      go_wp2_with fail
      go_ret
      exact ⟨rfl, BL.out⟩
end Go.Proofs.YbulkaewgFmt
