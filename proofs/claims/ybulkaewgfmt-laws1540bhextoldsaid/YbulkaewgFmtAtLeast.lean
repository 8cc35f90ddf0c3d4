/-
  io.ReadAtLeast over the failing reader. By the prover of seat b1540aF.
-/
import Derived.Test.YbulkaewgFmtRead
import Derived.LaidEql
namespace Go.Proofs.YbulkaewgFmt
open Go.RowKit

/-- what ReadAtLeast leaves where the reader fails at its call k -/
def AFail (B0 r db cap eb : Nat) (D : List Int) (k : Nat) (ev : Value) (w : World) (e : Ending) (w' : World) : Prop :=
  e = .returned (.tuple #[.int .i64 ((k - 1 : Nat) : Int), ev]) ∧ Rd r db 4 cap D (k - 1) 1 k k ev w' ∧ Below B0 w w' ∧ w'.heap[eb]? = w.heap[eb]?

theorem ROk.below {r db N cap : Nat} {D : List Int} {pos chunk failAt calls : Nat} {ev : Value} {pb po n B0 : Nat} {w w' : World} {e : Ending} (h : ROk r db N cap D pos chunk failAt calls ev pb po n w e w') (hB : B0 ≤ w.heap.size) (h1 : B0 ≤ r) (h2 : B0 ≤ pb) : Below B0 w w' :=
  h.2.2.2.below B0 hB (by rintro k o hk (⟨e, _⟩ | ⟨e, _⟩) <;> omega)
theorem RFail.below {r db N cap : Nat} {D : List Int} {pos chunk failAt calls : Nat} {ev : Value} {B0 : Nat} {w w' : World} {e : Ending} (h : RFail r db N cap D pos chunk failAt calls ev w e w') (hB : B0 ≤ w.heap.size) (h1 : B0 ≤ r) : Below B0 w w' :=
  h.2.2.below B0 hB (by rintro k o hk ⟨e, _⟩; omega)

/-- the buffer's cells -/
def Room (pb : Nat) (w : World) : Prop := (∀ j, j < 4 → (w.cell? ⟨pb, 1 + j, none⟩).isSome = true) ∧ (∀ j, w.frozen? ⟨pb, j, none⟩ = false) ∧ pb < w.heap.size

theorem Room.ok {pb r : Nat} {w w' : World} (h : Room pb w) {db N cap : Nat} {D : List Int} {pos chunk failAt calls : Nat} {ev : Value} {po n : Nat} {e : Ending} (k : ROk r db N cap D pos chunk failAt calls ev pb po n w e w') (hp : pb ≠ r) : Room pb w' := by
  have F := k.2.2.2
  refine ⟨fun j hj => ?_, fun j => ?_, Nat.lt_of_lt_of_le h.2.2 F.size⟩
  · by_cases hin : po ≤ 1 + j ∧ 1 + j < po + n
    · have := k.2.2.1 (1 + j - po) (by omega)
      rw [show po + (1 + j - po) = 1 + j by omega] at this
      rw [this]; rfl
    · rw [F.cell pb (1 + j) h.2.2 (by rintro (⟨e, _⟩ | ⟨_, e1, e2⟩); exact hp e; exact hin ⟨e1, e2⟩)]
      exact h.1 j hj
  · rw [F.frz pb j h.2.2 ⟨po + n, by rintro (⟨e, _⟩ | ⟨_, e1, e2⟩); exact hp e; omega⟩]
    exact h.2.1 j

theorem Ybaf.isComp : (Ybaf.prog.info? 43).map (·.comparable) = some true := by kernel_rfl
theorem Ybaf.isSize : (Ybaf.prog.info? 45).map (·.size) = some 1 := by kernel_rfl

/-- two errors of errors.New's make at two addresses are not equal -/
theorem eql_other {W : World} {x a : Addr} {cx ca : Array Value} {tx ta : TypeId} (hx : W.heap[x.block]? = some (.cells cx tx (0, 0))) (ha : W.heap[a.block]? = some (.cells ca ta (0, 0))) (h : x ≠ a) :
    (binOp .eql 29 (.iface 43 (.pointer (some x))) (.iface 43 (.pointer (some a)))).run Ybaf.prog W = .ok (.bool false) W := by
  obtain ⟨i, hi, hcmp⟩ := Option.map_eq_some_iff.1 Ybaf.isComp
  obtain ⟨j, hj, hjs⟩ := Option.map_eq_some_iff.1 Ybaf.isSize
  exact run_eql_iface_ptr_other (P := Ybaf.prog) W Ybaf.underlying29 Ybaf.underlying43 hi hcmp hj (by rw [hjs]; decide) h hx ha
theorem eql_same {W : World} (x : Addr) : (binOp .eql 29 (.iface 43 (.pointer (some x))) (.iface 43 (.pointer (some x)))).run Ybaf.prog W = .ok (.bool true) W := by
  obtain ⟨i, hi, hcmp⟩ := Option.map_eq_some_iff.1 Ybaf.isComp
  obtain ⟨j, hj, hjs⟩ := Option.map_eq_some_iff.1 Ybaf.isSize
  exact run_eql_iface_ptr_same (P := Ybaf.prog) W x Ybaf.underlying29 Ybaf.underlying43 hi hcmp hj

theorem below_drewN {B0 q : Nat} {w w' : World} (h : Below B0 (w.drewN q) w') : Below B0 w w' := ⟨h.os, h.tape, h.output, h.size, h.block⟩

theorem Room.fail {pb r : Nat} {w w' : World} (h : Room pb w) (wx : World) (hx : wx.heap = w.heap) (F : Frm wx w' (fun k o => k = r ∧ o = 4)) (hp : pb ≠ r) : Room pb w' := by
  have lt : pb < wx.heap.size := by rw [hx]; exact h.2.2
  have hb : wx.heap[pb]? = w.heap[pb]? := by rw [hx]
  have e := (F.blk pb lt (by rintro o ⟨e, _⟩; exact hp e)).trans hb
  exact ⟨fun j hj => by rw [World.cell?_of_block (w := w) (a := ⟨pb, 1 + j, none⟩) e]; exact h.1 j hj, fun j => (World.frozen?_of_block (w := w) (a := ⟨pb, j, none⟩) e).trans (h.2.1 j), Nat.lt_of_lt_of_le lt F.size⟩

set_option maxHeartbeats 4000000 in
set_option maxRecDepth 100000 in
theorem atLeast_fail (B0 r db pb cap : Nat) (D : List Int) (k eb : Nat) (a2 : Addr) (w : World) (h : Rd r db 4 cap D 0 1 k 0 (.iface 43 (.pointer (some ⟨eb, 0, none⟩))) w) (hr : Room pb w) (hk1 : 1 ≤ k) (hk4 : k ≤ 4) (hcap : 4 ≤ cap) (hne : db ≠ r) (h1 : pb ≠ r) (h2 : pb ≠ db) (b1 : B0 ≤ r) (b2 : B0 ≤ pb) (b3 : B0 ≤ w.heap.size) (b4 : 2 < B0)
    (g2 : w.cell? ⟨2, 0, none⟩ = some (.iface 43 (.pointer (some a2)))) (ga : (⟨eb, 0, none⟩ : Addr) ≠ a2) {ce ca : Array Value} {te ta : TypeId} (ge : w.heap[eb]? = some (.cells ce te (0, 0))) (gx : w.heap[a2.block]? = some (.cells ca ta (0, 0))) (gb : a2.block < B0) (er : eb ≠ r) (ep : eb ≠ pb) :
    Calls Ybaf.prog 16 #[.iface 31 (.pointer (some ⟨r, 0, none⟩)), .slice (some ⟨pb, 1, none⟩) 4 65520, .int .i64 4] w (AFail B0 r db cap eb D k (.iface 43 (.pointer (some ⟨eb, 0, none⟩))) w) := by
  have H : Hid (Rd r db 4 cap D 0 1 k 0 (.iface 43 (.pointer (some ⟨eb, 0, none⟩))) w) := h
  have HR : Hid (Room pb w) := hr
  clear h hr
  go_enter Ybaf.func16, Ybaf.ntmps16
  go_wp2_with fail
  go_loopw [6, 7, 8] (fun s6 s7 s8 wr => ∃ n : Nat, s6 = .int .i64 n ∧ n < k ∧ Room pb wr ∧ Below B0 w wr ∧ wr.heap[eb]? = w.heap[eb]? ∧ ((s7 = .nilIface ∧ Rd r db 4 cap D n 1 k n (.iface 43 (.pointer (some ⟨eb, 0, none⟩))) wr) ∨ (s7 = .iface 43 (.pointer (some ⟨eb, 0, none⟩)) ∧ n = k - 1 ∧ Rd r db 4 cap D (k - 1) 1 k k (.iface 43 (.pointer (some ⟨eb, 0, none⟩))) wr))) (fun s6 s7 _ _ => match s7 with | .nilIface => 10 - (intOf s6).toNat | _ => 0)
  case atStart => exact ⟨0, rfl, by omega, HR.out, Below.refl _ _, rfl, Or.inl ⟨rfl, H.out⟩⟩
  case round =>
    obtain ⟨n, rfl, hn, hrm, bel, hee, hs⟩ := hrel
    have HEE : Hid (wr.heap[eb]? = w.heap[eb]?) := hee
    have lte : eb < wr.heap.size := by
      rcases Nat.lt_or_ge eb wr.heap.size with h | h
      · exact h
      · rw [Array.getElem?_eq_none h, ge] at hee; cases hee
    clear hee
    have HRM : Hid (Room pb wr) := hrm
    have HBL : Hid (Below B0 w wr) := bel
    have b3' : B0 ≤ wr.heap.size := by have := bel.size; omega
    have ha := ahead31 r
    have hmt := method31 r
    rcases hs with ⟨rfl, rd⟩ | ⟨rfl, hnk, rd⟩
    · have RD : Hid (Rd r db 4 cap D n 1 k n (.iface 43 (.pointer (some ⟨eb, 0, none⟩))) wr) := rd
      have hn4 : n < 4 := by omega
      clear rd hrm bel
      by_cases hlast : n + 1 = k
      · have hcon : Hid (∀ q C, Calls Ybaf.prog 33 #[.pointer (some ⟨r, 0, none⟩), .slice (some ⟨pb, 1 + n, none⟩) (4 - n) C] (wr.drewN q) (RFail r db 4 cap D n 1 k n (.iface 43 (.pointer (some ⟨eb, 0, none⟩))) (wr.drewN q))) := fun q C => read_fail r db 4 cap D n 1 k n _ _ _ C _ (RD.out.drewN q) hne (by omega) hlast hk4
        go_wp2_with fail
        go_region_with (go_at_call 33; refine (hcon.out 1 _).mono ?_; rintro e w2 ⟨rfl, y1, y2⟩)
        all_goals go_wp2_with fail
        all_goals go_roundw
        all_goals first | (simp [intOf]; omega) | exact ⟨n, by go_num, by omega, HRM.out.fail (wr.drewN 1) rfl y2 h1, HBL.out.trans (below_drewN (RFail.below (w := wr.drewN 1) ⟨rfl, y1, y2⟩ b3' b1)), (y2.blk eb lte (by rintro o ⟨e, _⟩; exact er e)).trans HEE.out, Or.inr ⟨rfl, by omega, by have := y1; rw [hlast] at this; rw [show k - 1 = n by omega]; exact this⟩⟩
      · have hcon : Hid (∀ q C, C ≤ 70000 → 4 - n ≤ C → Calls Ybaf.prog 33 #[.pointer (some ⟨r, 0, none⟩), .slice (some ⟨pb, 1 + n, none⟩) (4 - n) C] (wr.drewN q) (ROk r db 4 cap D n 1 k n (.iface 43 (.pointer (some ⟨eb, 0, none⟩))) pb (1 + n) 1 (wr.drewN q))) := fun q C hC1 hC2 => read_ok r db 4 cap D n 1 k n _ pb (1 + n) (4 - n) C 1 _ (RD.out.drewN q) hne (Or.inr ⟨by omega, hlast⟩) (by omega) (by omega) hn4 (by omega) hcap (by omega) hC2 hC1 (by omega) (fun j hj => by have := HRM.out.1 (n + j) (by omega); rwa [show 1 + (n + j) = 1 + n + j by omega] at this) HRM.out.2.1 h1 h2
        go_wp2_with fail
        go_region_with (go_at_call 33; refine (hcon.out 1 _ (by omega) (by omega)).mono ?_; rintro e w2 ⟨rfl, y1, y2, y3⟩)
        all_goals go_wp2_with fail
        all_goals go_roundw
        all_goals first | (simp [intOf]; omega) | exact ⟨n + 1, by go_num, by omega, Room.ok (w := wr.drewN 1) HRM.out ⟨rfl, y1, y2, y3⟩ h1, HBL.out.trans (below_drewN (ROk.below (w := wr.drewN 1) ⟨rfl, y1, y2, y3⟩ b3' b1 b2)), (y3.blk eb lte (by rintro o (⟨e, _⟩ | ⟨e, _⟩); exact er e; exact ep e)).trans HEE.out, Or.inl ⟨rfl, y1⟩⟩
    · have RD : Hid (Rd r db 4 cap D (k - 1) 1 k k (.iface 43 (.pointer (some ⟨eb, 0, none⟩))) wr) := rd
      have gg : wr.cell? ⟨2, 0, none⟩ = some (.iface 43 (.pointer (some a2))) := (bel.cell (p := ⟨2, 0, none⟩) b4).trans g2
      have hn4 : n < 4 := by omega
      have hn4' : decide ((4 : Int) ≤ (n : Int)) = false := decide_eq_false (by omega)
      have HNK : Hid (n = k - 1) := hnk
      clear rd hrm bel hnk
      have hq := eql_other (W := wr) (x := ⟨eb, 0, none⟩) (a := a2) (HEE.out.trans ge) ((HBL.out.block a2.block gb).trans gx) ga
      by_cases hn0 : 0 < n
      · go_wp2_with fail
        go_ret2
        exact ⟨by rw [HNK.out]; rfl, RD.out, HBL.out, HEE.out⟩
      · have hnd : decide (0 < n) = false := decide_eq_false hn0
        go_wp2_with fail
        go_ret2
        exact ⟨by rw [HNK.out]; rfl, RD.out, HBL.out, HEE.out⟩
end Go.Proofs.YbulkaewgFmt
