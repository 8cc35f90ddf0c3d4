/-
  io.ReadAtLeast over the reader that does not fail. By the prover of seat b1540aF.
-/
import Derived.Test.YbulkaewgFmtAtLeast
namespace Go.Proofs.YbulkaewgFmt
open Go.RowKit

/-- Read at the end of the data -/
def REof (r db N cap : Nat) (D : List Int) (pos chunk failAt calls : Nat) (ev : Value) (a2 : Addr) (w : World) (e : Ending) (w' : World) : Prop :=
  e = .returned (.tuple #[.int .i64 0, .iface 43 (.pointer (some a2))]) ∧ Rd r db N cap D pos chunk failAt (calls + 1) ev w' ∧ Frm w w' (fun k o => k = r ∧ o = 4)

set_option maxHeartbeats 4000000 in
set_option maxRecDepth 100000 in
theorem read_eof (r db N cap : Nat) (D : List Int) (pos chunk calls : Nat) (ev : Value) (a : Option Addr) (a2 : Addr) (L C : Nat) (w : World) (h : Rd r db N cap D pos chunk 0 calls ev w) (hne : db ≠ r) (hcl : calls ≤ 1000) (hpos : N ≤ pos) (g2 : w.cell? ⟨2, 0, none⟩ = some (.iface 43 (.pointer (some a2)))) :
    Calls Ybaf.prog 33 #[.pointer (some ⟨r, 0, none⟩), .slice a L C] w (REof r db N cap D pos chunk 0 calls ev a2 w) := by
  have c0 := h.c0
  have c1 := h.c1
  have c3 := h.c3
  have c4 := h.c4
  have f4 := h.fz 4
  have hle : (N : Int) ≤ (pos : Int) := by omega
  have H : Hid (Rd r db N cap D pos chunk 0 calls ev w) := h
  clear h
  go_enter Ybaf.func33, Ybaf.ntmps33
  go_wp2_with fail
  go_quiet (fail)
  go_wp2_with fail
  go_quiet (fail)
  go_wp2_with fail
  go_quiet (fail)
  go_wp2_with fail
  go_ret2
  exact ⟨rfl, ((((H.out.called hne (y := (calls : Int) + 1) (by omega)).drewN _).drewN _).drewN _), (((Frm.setCell w r 4 _ _ ⟨rfl, rfl⟩).trans (Frm.drewN _ _ _)).trans (Frm.drewN _ _ _)).trans (Frm.drewN _ _ _)⟩

/-- the bytes got so far, one read on -/
theorem got {pb r n m : Nat} {D : List Int} {w w' : World} (hl : pb < w.heap.size) (hd : ∀ j, j < n → w.cell? ⟨pb, 1 + j, none⟩ = some (.int .u8 (D.getD j 0))) (hy : ∀ j, j < m → w'.cell? ⟨pb, 1 + n + j, none⟩ = some (.int .u8 (D.getD (n + j) 0))) (F : Frm w w' (fun k o => k = r ∧ o ≤ 5 ∨ k = pb ∧ 1 + n ≤ o ∧ o < 1 + n + m)) (h1 : pb ≠ r) :
    ∀ j, j < n + m → w'.cell? ⟨pb, 1 + j, none⟩ = some (.int .u8 (D.getD j 0)) := by
  intro j hj
  by_cases hjn : j < n
  · rw [F.cell pb (1 + j) hl (by rintro (⟨e, _⟩ | ⟨_, e, _⟩); exact h1 e; omega)]
    exact hd j hjn
  · have := hy (j - n) (by omega)
    rwa [show 1 + n + (j - n) = 1 + j by omega, show n + (j - n) = j by omega] at this

/-- what ReadAtLeast leaves: m = min N 4 bytes are read -/
def AOk (B0 r db N cap : Nat) (D : List Int) (chunk : Nat) (ev : Value) (pb : Nat) (a2 a3 : Addr) (w : World) (e : Ending) (w' : World) : Prop :=
  e = .returned (.tuple #[.int .i64 ((min N 4 : Nat) : Int), if 4 ≤ N then .nilIface else .iface 43 (.pointer (some (if N = 0 then a2 else a3)))]) ∧ (∃ calls, Rd r db N cap D (min N 4) chunk 0 calls ev w') ∧ Below B0 w w' ∧ Room pb w' ∧ ∀ j, j < min N 4 → w'.cell? ⟨pb, 1 + j, none⟩ = some (.int .u8 (D.getD j 0))

theorem Room.frm {pb r : Nat} {w w' : World} (h : Room pb w) (F : Frm w w' (fun k o => k = r ∧ o = 4)) (hp : pb ≠ r) : Room pb w' ∧ w'.heap[pb]? = w.heap[pb]? := by
  have e := F.blk pb h.2.2 (by rintro o ⟨e, _⟩; exact hp e)
  exact ⟨⟨fun j hj => by rw [World.cell?_of_block (w := w) (a := ⟨pb, 1 + j, none⟩) e]; exact h.1 j hj, fun j => (World.frozen?_of_block (w := w) (a := ⟨pb, j, none⟩) e).trans (h.2.1 j), Nat.lt_of_lt_of_le h.2.2 F.size⟩, e⟩

set_option maxHeartbeats 8000000 in
set_option maxRecDepth 100000 in
theorem atLeast_ok (B0 r db pb N cap chunk : Nat) (D : List Int) (ev : Value) (a2 a3 : Addr) (w : World) (h : Rd r db N cap D 0 chunk 0 0 ev w) (hr : Room pb w) (hN : N ≤ 1100) (hcap : N ≤ cap) (hc1 : 1 ≤ chunk) (hc2 : chunk ≤ 5) (hne : db ≠ r) (h1 : pb ≠ r) (h2 : pb ≠ db) (b1 : B0 ≤ r) (b2 : B0 ≤ pb) (b3 : B0 ≤ w.heap.size) (b4 : 3 < B0)
    (g2 : w.cell? ⟨2, 0, none⟩ = some (.iface 43 (.pointer (some a2)))) (g3 : w.cell? ⟨3, 0, none⟩ = some (.iface 43 (.pointer (some a3)))) :
    Calls Ybaf.prog 16 #[.iface 31 (.pointer (some ⟨r, 0, none⟩)), .slice (some ⟨pb, 1, none⟩) 4 65520, .int .i64 4] w (AOk B0 r db N cap D chunk ev pb a2 a3 w) := by
  have H : Hid (Rd r db N cap D 0 chunk 0 0 ev w) := h
  have HR : Hid (Room pb w) := hr
  clear h hr
  go_enter Ybaf.func16, Ybaf.ntmps16
  go_wp2_with fail
  go_loopw [6, 7, 8] (fun s6 s7 s8 wr => ∃ n calls : Nat, s6 = .int .i64 n ∧ n ≤ 4 ∧ n ≤ N ∧ Room pb wr ∧ Below B0 w wr ∧ (∀ j, j < n → wr.cell? ⟨pb, 1 + j, none⟩ = some (.int .u8 (D.getD j 0))) ∧ Rd r db N cap D n chunk 0 calls ev wr ∧ ((s7 = .nilIface ∧ calls ≤ n) ∨ (s7 = .iface 43 (.pointer (some a2)) ∧ n = N ∧ N < 4))) (fun s6 s7 _ _ => match s7 with | .nilIface => 10 - (intOf s6).toNat | _ => 0)
  case atStart => exact ⟨0, 0, rfl, by omega, by omega, HR.out, Below.refl _ _, fun j hj => by omega, H.out, Or.inl ⟨rfl, by omega⟩⟩
  case round =>
    obtain ⟨n, calls, rfl, hn4, hnN, hrm, bel, hdat, rd, hs⟩ := hrel
    have HRM : Hid (Room pb wr) := hrm
    have HBL : Hid (Below B0 w wr) := bel
    have HD : Hid (∀ j, j < n → wr.cell? ⟨pb, 1 + j, none⟩ = some (.int .u8 (D.getD j 0))) := hdat
    have RD : Hid (Rd r db N cap D n chunk 0 calls ev wr) := rd
    have b3' : B0 ≤ wr.heap.size := by have := bel.size; omega
    have ha := ahead31 r
    have hmt := method31 r
    have gg2 : wr.cell? ⟨2, 0, none⟩ = some (.iface 43 (.pointer (some a2))) := (bel.cell (p := ⟨2, 0, none⟩) (by show 2 < B0; omega)).trans g2
    have gg3 : wr.cell? ⟨3, 0, none⟩ = some (.iface 43 (.pointer (some a3))) := (bel.cell (p := ⟨3, 0, none⟩) b4).trans g3
    clear hrm bel hdat rd
    rcases hs with ⟨rfl, hcl⟩ | ⟨rfl, hnk, hN4⟩
    · by_cases hlt : n < 4
      · by_cases hmore : n < N
        · obtain ⟨m, hm⟩ : ∃ m, m = min (min (N - n) chunk) (4 - n) := ⟨_, rfl⟩
          have hm1 : 1 ≤ m := by omega
          have hm2 : n + m ≤ 4 := by omega
          have hm3 : n + m ≤ N := by omega
          have hcon : Hid (∀ q C, C ≤ 70000 → 4 - n ≤ C → Calls Ybaf.prog 33 #[.pointer (some ⟨r, 0, none⟩), .slice (some ⟨pb, 1 + n, none⟩) (4 - n) C] (wr.drewN q) (ROk r db N cap D n chunk 0 calls ev pb (1 + n) m (wr.drewN q))) := fun q C hC1 hC2 => read_ok r db N cap D n chunk 0 calls _ pb (1 + n) (4 - n) C m _ (RD.out.drewN q) hne (Or.inl rfl) (by omega) (by omega) hmore (by omega) hcap (by omega) hC2 hC1 hm (fun j hj => by have := HRM.out.1 (n + j) (by omega); rwa [show 1 + (n + j) = 1 + n + j by omega] at this) HRM.out.2.1 h1 h2
          clear hm
          go_wp2_with fail
          go_region_with (go_at_call 33; refine (hcon.out 1 _ (by omega) (by omega)).mono ?_; rintro e w2 ⟨rfl, y1, y2, y3⟩)
          all_goals go_wp2_with fail
          all_goals go_roundw
          all_goals first | (simp [intOf]; omega) | exact ⟨n + m, calls + 1, by go_num, by omega, by omega, Room.ok (w := wr.drewN 1) HRM.out ⟨rfl, y1, y2, y3⟩ h1, HBL.out.trans (below_drewN (ROk.below (w := wr.drewN 1) ⟨rfl, y1, y2, y3⟩ b3' b1 b2)), got (w := wr.drewN 1) HRM.out.2.2 HD.out y2 y3 h1, y1, Or.inl ⟨rfl, by omega⟩⟩
        · have hnN' : n = N := by omega
          have hcon : Hid (∀ q C, Calls Ybaf.prog 33 #[.pointer (some ⟨r, 0, none⟩), .slice (some ⟨pb, 1 + n, none⟩) (4 - n) C] (wr.drewN q) (REof r db N cap D n chunk 0 calls ev a2 (wr.drewN q))) := fun q C => read_eof r db N cap D n chunk calls ev _ a2 _ C _ (RD.out.drewN q) hne (by omega) (by omega) gg2
          have HNN : Hid (n = N) := hnN'
          have hN4 : n < 4 := hlt
          clear hnN' hmore hnN hN
          go_wp2_with fail
          go_region_with (go_at_call 33; refine (hcon.out 1 _).mono ?_; rintro e w2 ⟨rfl, y1, y2⟩)
          all_goals go_wp2_with fail
          all_goals go_roundw
          all_goals first | (simp [intOf]; omega) | exact ⟨n, calls + 1, by go_num, by omega, Nat.le_of_eq HNN.out, (Room.frm (w := wr.drewN 1) HRM.out y2 h1).1, HBL.out.trans (below_drewN (y2.below B0 b3' (by rintro k o hk ⟨e, _⟩; omega))), fun j hj => (World.cell?_of_block (w := wr.drewN 1) (a := ⟨pb, 1 + j, none⟩) (Room.frm (w := wr.drewN 1) HRM.out y2 h1).2).trans (HD.out j hj), y1, Or.inr ⟨rfl, HNN.out, by rw [← HNN.out]; exact hN4⟩⟩
      · obtain rfl : n = 4 := by omega
        have FIN : Hid (AOk B0 r db N cap D chunk ev pb a2 a3 w (.returned (.tuple #[.int .i64 4, .nilIface])) wr) := ⟨by rw [show min N 4 = 4 by omega, if_pos (by omega)]; rfl, ⟨calls, by rw [show min N 4 = 4 by omega]; exact RD.out⟩, HBL.out, HRM.out, fun j hj => HD.out j (by omega)⟩
        go_wp2_with fail
        go_ret2
        exact FIN.out
    · have hq := eql_same (W := wr) a2
      subst hnk
      have hd4 : decide ((4 : Int) ≤ (n : Int)) = false := decide_eq_false (by omega)
      by_cases hn0 : 0 < n
      · have FIN : Hid (AOk B0 r db n cap D chunk ev pb a2 a3 w (.returned (.tuple #[.int .i64 n, .iface 43 (.pointer (some a3))])) wr) := ⟨by rw [show min n 4 = n by omega, if_neg (by omega), if_neg (by omega)], ⟨calls, by rw [show min n 4 = n by omega]; exact RD.out⟩, HBL.out, HRM.out, fun j hj => HD.out j (by omega)⟩
        go_wp2_with fail
        go_ret2
        exact FIN.out
      · have FIN : Hid (AOk B0 r db n cap D chunk ev pb a2 a3 w (.returned (.tuple #[.int .i64 n, .iface 43 (.pointer (some a2))])) wr) := ⟨by rw [show min n 4 = n by omega, if_neg (by omega), if_pos (by omega)], ⟨calls, by rw [show min n 4 = n by omega]; exact RD.out⟩, HBL.out, HRM.out, fun j hj => HD.out j (by omega)⟩
        have hd0 : decide (0 < n) = false := decide_eq_false hn0
        go_wp2_with fail
        go_ret2
        exact FIN.out
end Go.Proofs.YbulkaewgFmt
