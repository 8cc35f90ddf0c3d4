/-
  io.ReadFull, cutShort and head over the failing reader. By the prover of seat b1540aF.
-/
import Derived.Test.YbulkaewgFmtAtLeast
namespace Go.Proofs.YbulkaewgFmt
open Go.RowKit

set_option maxHeartbeats 1000000 in
theorem readFull_of {r pb : Nat} {w : World} {Q : Ending → World → Prop} {n : Nat} {ev : Value} {S : World → Prop}
    (h : Calls Ybaf.prog 16 #[.iface 31 (.pointer (some ⟨r, 0, none⟩)), .slice (some ⟨pb, 1, none⟩) 4 65520, .int .i64 4] w fun e w' => e = .returned (.tuple #[.int .i64 n, ev]) ∧ S w') (hQ : ∀ w', S w' → Q (.returned (.tuple #[.int .i64 n, ev])) w') :
    Calls Ybaf.prog 12 #[.iface 31 (.pointer (some ⟨r, 0, none⟩)), .slice (some ⟨pb, 1, none⟩) 4 65520] w Q := by
  have HQ : Hid (∀ w', S w' → Q (.returned (.tuple #[.int .i64 n, ev])) w') := hQ
  clear hQ
  go_enter Ybaf.func12, Ybaf.ntmps12
  go_wp2_with fail
  refine h.mono ?_
  rintro e w' ⟨rfl, hs⟩
  go_wp2_with fail
  exact HQ.out w' hs

set_option maxHeartbeats 1000000 in
theorem cutShort_other (eb : Nat) (a2 a3 : Addr) (w : World) {ce ca cb : Array Value} {te ta tb : TypeId} (g2 : w.cell? ⟨2, 0, none⟩ = some (.iface 43 (.pointer (some a2)))) (g3 : w.cell? ⟨3, 0, none⟩ = some (.iface 43 (.pointer (some a3))))
    (ge : w.heap[eb]? = some (.cells ce te (0, 0))) (gx : w.heap[a2.block]? = some (.cells ca ta (0, 0))) (gy : w.heap[a3.block]? = some (.cells cb tb (0, 0))) (n2 : (⟨eb, 0, none⟩ : Addr) ≠ a2) (n3 : (⟨eb, 0, none⟩ : Addr) ≠ a3) :
    Calls Ybaf.prog 13 #[.iface 43 (.pointer (some ⟨eb, 0, none⟩))] w fun e w' => e = .returned (.iface 43 (.pointer (some ⟨eb, 0, none⟩))) ∧ w' = w := by
  have hq2 := eql_other (W := w) (x := ⟨eb, 0, none⟩) (a := a2) ge gx n2
  have hq3 := eql_other (W := w) (x := ⟨eb, 0, none⟩) (a := a3) ge gy n3
  go_enter Ybaf.func13, Ybaf.ntmps13
  go_wp2_with fail
  go_ret
  exact ⟨rfl, rfl⟩

/-- what head leaves where the reader fails -/
def FailPost (B0 r db cap : Nat) (D : List Int) (k : Nat) (ev : Value) (w : World) (e : Ending) (w' : World) : Prop :=
  e = .returned (.tuple #[.int .i64 0, .int .i64 0, ev]) ∧ Rd r db 4 cap D (k - 1) 1 k k ev w' ∧ Below B0 w w'

set_option maxHeartbeats 4000000 in
set_option maxRecDepth 100000 in
theorem head_fail (B0 r db pb cap : Nat) (D : List Int) (k eb : Nat) (a2 a3 : Addr) (w : World) (h : Rd r db 4 cap D 0 1 k 0 (.iface 43 (.pointer (some ⟨eb, 0, none⟩))) w) (pk : Pkt r pb w) (hpl : pb < w.heap.size) (hk1 : 1 ≤ k) (hk4 : k ≤ 4) (hcap : 4 ≤ cap) (hne : db ≠ r) (h1 : pb ≠ r) (h2 : pb ≠ db) (b1 : B0 ≤ r) (b2 : B0 ≤ pb) (b3 : B0 ≤ w.heap.size) (b4 : 3 < B0)
    (g2 : w.cell? ⟨2, 0, none⟩ = some (.iface 43 (.pointer (some a2)))) (g3 : w.cell? ⟨3, 0, none⟩ = some (.iface 43 (.pointer (some a3)))) (n2 : (⟨eb, 0, none⟩ : Addr) ≠ a2) (n3 : (⟨eb, 0, none⟩ : Addr) ≠ a3) {ce ca cb : Array Value} {te ta tb : TypeId} (ge : w.heap[eb]? = some (.cells ce te (0, 0))) (gx : w.heap[a2.block]? = some (.cells ca ta (0, 0))) (gy : w.heap[a3.block]? = some (.cells cb tb (0, 0))) (gb : a2.block < B0) (gc : a3.block < B0) (er : eb ≠ r) (ep : eb ≠ pb) :
    Calls Ybaf.prog 10 #[.pointer (some ⟨pb, 0, none⟩)] w (FailPost B0 r db cap D k (.iface 43 (.pointer (some ⟨eb, 0, none⟩))) w) := by
  have c0 := pk.c0
  have room : Room pb w := ⟨fun j hj => by obtain ⟨b, hb⟩ := pk.cb j hj; rw [hb]; rfl, pk.fz, hpl⟩
  have hcon := readFull_of (Q := fun e w' => e = .returned (.tuple #[.int .i64 ((k - 1 : Nat) : Int), .iface 43 (.pointer (some ⟨eb, 0, none⟩))]) ∧ (Rd r db 4 cap D (k - 1) 1 k k (.iface 43 (.pointer (some ⟨eb, 0, none⟩))) w' ∧ Below B0 w w' ∧ w'.heap[eb]? = w.heap[eb]?)) (atLeast_fail B0 r db pb cap D k eb a2 w h room hk1 hk4 hcap hne h1 h2 b1 b2 b3 (by omega) g2 n2 ge gx gb er ep) (fun w' hs => ⟨rfl, hs⟩)
  have HG : Hid (∀ w', Below B0 w w' → w'.heap[eb]? = w.heap[eb]? → Calls Ybaf.prog 13 #[.iface 43 (.pointer (some ⟨eb, 0, none⟩))] w' fun e w2 => e = .returned (.iface 43 (.pointer (some ⟨eb, 0, none⟩))) ∧ w2 = w') := fun w' bel he => cutShort_other eb a2 a3 w' ((bel.cell (p := ⟨2, 0, none⟩) (by show 2 < B0; omega)).trans g2) ((bel.cell (p := ⟨3, 0, none⟩) b4).trans g3) (he.trans ge) ((bel.block _ gb).trans gx) ((bel.block _ gc).trans gy) n2 n3
  clear h pk room
  go_enter Ybaf.func10, Ybaf.ntmps10
  go_wp2_with fail
  refine hcon.mono ?_
  rintro e w1 ⟨rfl, y1, y2, y3⟩
  go_wp2_with fail
  refine (HG.out w1 y2 y3).mono ?_
  rintro e w2 ⟨rfl, rfl⟩
  go_wp2_with fail
  go_ret3
  exact ⟨rfl, y1, y2⟩
end Go.Proofs.YbulkaewgFmt
