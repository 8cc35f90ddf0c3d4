/-
  head over at least four bytes. By the prover of seat b1540aF.
-/
import Derived.Test.YbulkaewgFmtDecode
import Derived.Test.YbulkaewgFmtStop
import Derived.Test.YbulkaewgFmtHeadFail
namespace Go.Proofs.YbulkaewgFmt
open Go.RowKit Go.Extern.Stop Go.Stop Go.Extern

/-- what head answers: v: the four bytes are digits; n: their value -/
def Out (B0 : Nat) (v : Bool) (n : Nat) (K L : Int) (E : Value) (w' : World) : Prop :=
  (v = true ∧ n < 3 ∧ K = (n : Int) + 1 ∧ L = 0 ∧ E = .nilIface) ∨ (v = true ∧ 4 ≤ n ∧ n ≤ 65520 ∧ K = 0 ∧ L = (n : Int) - 4 ∧ E = .nilIface) ∨
  ((v = false ∨ n = 3 ∨ 65520 < n) ∧ K = 0 ∧ L = 0 ∧ ∃ (eb : Nat) (ce : Array Value) (te : TypeId), E = .iface 43 (.pointer (some ⟨eb, 0, none⟩)) ∧ B0 ≤ eb ∧ w'.heap[eb]? = some (.cells ce te (0, 0)))

/-- what lies below the blocks that head makes stands -/
def HeadEnd (B0 : Nat) (D : List Int) (w1 : World) (e : Ending) (w' : World) : Prop :=
  ∃ K L E, e = .returned (.tuple #[.int .i64 K, .int .i64 L, E]) ∧ Out B0 (vld D 4) (lenN D 4) K L E w' ∧ Below w1.heap.size w1 w'

theorem lenN4 (D : List Int) : (nv (D.getD 0 0) * 16 + nv (D.getD 1 0)) * 256 + (nv (D.getD 2 0) * 16 + nv (D.getD 3 0)) = lenN D 4 := by
  simp only [lenN]; omega

set_option maxHeartbeats 4000000 in
set_option maxRecDepth 100000 in
theorem head_ok (B0 r pb : Nat) (D : List Int) (ev4 : Value) (F : Interp) (w : World) {S : World → Prop} (c0 : w.cell? ⟨pb, 0, none⟩ = some (.iface 31 (.pointer (some ⟨r, 0, none⟩))))
    (hcon : Calls Ybaf.prog 12 #[.iface 31 (.pointer (some ⟨r, 0, none⟩)), .slice (some ⟨pb, 1, none⟩) 4 65520] w fun e w' => e = .returned (.tuple #[.int .i64 4, .nilIface]) ∧ S w')
    (hS : ∀ w', S w' → Below B0 w w' ∧ pb < w'.heap.size ∧ ∀ j, j < 4 → w'.cell? ⟨pb, 1 + j, none⟩ = some (.int .u8 (D.getD j 0)))
    (hD : ∀ j, j < 4 → 0 ≤ D.getD j 0 ∧ D.getD j 0 < 256) (b4 : 5 < B0) (b3 : B0 ≤ w.heap.size) (hF : F.answers w.tape)
    (g1 : ∀ n, n < 3 → w.cell? ⟨1, n, none⟩ = some (.int .i64 ((n : Int) + 1))) (g4 : w.cell? ⟨4, 0, none⟩ = some ev4) :
    Calls Ybaf.prog 10 #[.pointer (some ⟨pb, 0, none⟩)] w fun e w' => ∃ w1, S w1 ∧ HeadEnd B0 D w1 e w' := by
  have HS : Hid (∀ w', S w' → Below B0 w w' ∧ pb < w'.heap.size ∧ ∀ j, j < 4 → w'.cell? ⟨pb, 1 + j, none⟩ = some (.int .u8 (D.getD j 0))) := hS
  have HF : Hid (F.answers w.tape) := hF
  have G1 : Hid (∀ n, n < 3 → w.cell? ⟨1, n, none⟩ = some (.int .i64 ((n : Int) + 1))) := g1
  clear hS hF g1
  go_enter Ybaf.func10, Ybaf.ntmps10
  go_wp2_with fail
  refine hcon.mono ?_
  rintro e w1 ⟨rfl, s1⟩
  obtain ⟨bel, hpl, hbuf⟩ := HS.out w1 s1
  have HB : Hid (Below B0 w w1) := bel
  have HU : Hid (∀ j, j < 4 → w1.cell? ⟨pb, 1 + j, none⟩ = some (.int .u8 (D.getD j 0))) := hbuf
  have hsz : B0 ≤ w1.heap.size := Nat.le_trans b3 bel.size
  clear bel hbuf
  go_wp2_with fail
  have hdec := dec_calls D w1.heap.size pb (w1.alloc (.cells #[.int .u8 0, .int .u8 0] 54)) ev4 hD (fun j hj => (((Below.refl _ w1).alloc (Nat.le_refl _) _).cell (p := ⟨pb, 1 + j, none⟩) hpl).trans (HU.out j hj)) (World.rowIs_alloc w1 #[.int .u8 0, .int .u8 0] 54 (fun _ => .int .u8 0) (fun i hi => match i, hi with | 0, _ => rfl | 1, _ => rfl)) (by omega) ((((Below.refl _ w1).alloc (Nat.le_refl _) _).cell (p := ⟨4, 0, none⟩) (by show 4 < w1.heap.size; omega)).trans ((HB.out.cell (p := ⟨4, 0, none⟩) (by show 4 < B0; omega)).trans g4)) (by omega)
  refine hdec.mono ?_
  clear hdec hcon hD
  rintro e w3 ⟨hg, h⟩
  have bel3 : Below w1.heap.size w1 w3 := ((Below.refl _ w1).alloc (Nat.le_refl _) _).grown hg (by simp) (fun k hk => by cases hk; exact Nat.le_refl _)
  have B3 : Hid (Below w1.heap.size w1 w3) := bel3
  have hF3 : F.answers w3.tape := by rw [bel3.tape, HB.out.tape]; exact HF.out
  have HF3 : Hid (F.answers w3.tape) := hF3
  have hsz3 : w1.heap.size ≤ w3.heap.size := bel3.size
  clear hg bel3 hF3
  have ERR : Hid (∀ blk o, blk = w3.heap.size → o = Obj.cells #[.iface 22 (.slice (some ⟨pb, 1, none⟩) 4 65520)] 20 → Calls Ybaf.prog 15 #[.string ⟨#[109, 97, 108, 102, 111, 114, 109, 101, 100, 32, 112, 107, 116, 45, 108, 105, 110, 101, 32, 108, 101, 110, 103, 116, 104, 32, 37, 113]⟩, .slice (some ⟨blk, 0, none⟩) 1 1] (w3.alloc o) fun e w' => e = .returned (.iface 43 (.pointer (some ⟨w3.heap.size + 1, 0, none⟩))) ∧ ∃ s, w' = ((w3.alloc o).alloc (.cells #[.string s] 45)).drew) := by
    rintro blk o rfl rfl
    have h := errorf_calls F ⟨pb, 1, none⟩ 65520 [D.getD 0 0, D.getD 1 0, D.getD 2 0, D.getD 3 0] w3.heap.size (w3.alloc (.cells #[.iface 22 (.slice (some ⟨pb, 1, none⟩) 4 65520)] 20)) HF3.out rfl ?_ ?_
    · simp only [World.size_alloc] at h
      exact h
    · intro j v hj
      have hcell : ∀ j, j < 4 → (w3.alloc (.cells #[.iface 22 (.slice (some ⟨pb, 1, none⟩) 4 65520)] 20)).cell? ⟨pb, 1 + j, none⟩ = some (.int .u8 (D.getD j 0)) := fun j hj => ((B3.out.alloc hsz3 _).cell (p := ⟨pb, 1 + j, none⟩) hpl).trans (HU.out j hj)
      match j, hj with
      | 0, hj => cases hj; exact hcell 0 (by omega)
      | 1, hj => cases hj; exact hcell 1 (by omega)
      | 2, hj => cases hj; exact hcell 2 (by omega)
      | 3, hj => cases hj; exact hcell 3 (by omega)
      | j + 4, hj => cases hj
    · rw [cell_of_row _ _ _ _ _ _ (heap_alloc_new' w3 (.cells #[.iface 22 (.slice (some ⟨pb, 1, none⟩) 4 65520)] 20))]; rfl
  have END : Hid (∀ s o, (vld D 4 = false ∨ lenN D 4 = 3 ∨ 65520 < lenN D 4) → HeadEnd B0 D w1 (.returned (.tuple #[.int .i64 0, .int .i64 0, .iface 43 (.pointer (some ⟨w3.heap.size + 1, 0, none⟩))])) ((w3.alloc o).alloc (.cells #[.string s] 45)).drew) := by
    intro s o hv
    refine ⟨_, _, _, rfl, Or.inr (Or.inr ⟨hv, rfl, rfl, w3.heap.size + 1, #[.string s], 45, rfl, by omega, ?_⟩), ((B3.out.alloc hsz3 o).alloc (by simp; omega) _).drew⟩
    have := heap_alloc_new' (w3.alloc o) (.cells #[.string s] 45)
    simp only [World.size_alloc] at this
    exact this
  rcases h with ⟨hv, rfl, k0, k1⟩ | ⟨hv, m, c, x, y, rfl, k0, k1, hx, hy⟩
  · have HV : Hid (vld D 4 = true) := hv
    obtain ⟨a, ha⟩ : ∃ a, a = nv (D.getD 0 0) * 16 + nv (D.getD 1 0) := ⟨_, rfl⟩
    obtain ⟨b, hb⟩ : ∃ b, b = nv (D.getD 2 0) * 16 + nv (D.getD 3 0) := ⟨_, rfl⟩
    obtain ⟨n, hn⟩ : ∃ n, n = lenN D 4 := ⟨_, rfl⟩
    have HN : Hid (n = lenN D 4) := hn
    have l0 := nv_lt (D.getD 0 0)
    have l1 := nv_lt (D.getD 1 0)
    have l2 := nv_lt (D.getD 2 0)
    have l3 := nv_lt (D.getD 3 0)
    have ho : bits .or .i64 ((a : Int) * 256) (b : Int) = (n : Int) := by rw [or_bytes a b (by omega) (by omega), ha, hb, lenN4, hn]
    have a256 : a < 256 := by omega
    have b256 : b < 256 := by omega
    have n64 : n < 65536 := by have := lenN4 D; omega
    rw [← ha] at k0
    rw [← hb] at k1
    clear ha hb hn l0 l1 l2 l3 hv
    by_cases h3 : n < 3
    · have g : w3.cell? ⟨1, n, none⟩ = some (.int .i64 ((n : Int) + 1)) := (B3.out.cell (p := ⟨1, n, none⟩) (by show 1 < w1.heap.size; omega)).trans ((HB.out.cell (p := ⟨1, n, none⟩) (by show 1 < B0; omega)).trans (G1.out n h3))
      go_wp2_with fail
      go_ret3
      exact ⟨w1, s1, _, _, _, rfl, Or.inl ⟨HV.out, by rw [← HN.out]; exact h3, by rw [← HN.out], rfl, rfl⟩, B3.out⟩
    · by_cases h4 : n = 3
      · subst h4
        go_wp2_with fail
        refine (ERR.out _ _ rfl rfl).mono ?_
        rintro e w5 ⟨rfl, s, rfl⟩
        go_wp2_with fail
        go_ret3
        exact ⟨w1, s1, END.out s _ (Or.inr (Or.inl HN.out.symm))⟩
      · by_cases h5 : n ≤ 65520
        · have h6 : 4 ≤ n := by omega
          have d1 : decide (n < 3) = false := decide_eq_false (by omega)
          have d2 : decide (n < 4) = false := decide_eq_false (by omega)
          have d3 : decide (65520 < n) = false := decide_eq_false (by omega)
          go_wp2_with fail
          go_ret3
          exact ⟨w1, s1, _, _, _, rfl, Or.inr (Or.inl ⟨HV.out, by rw [← HN.out]; exact h6, by rw [← HN.out]; exact h5, rfl, by rw [← HN.out], rfl⟩), B3.out⟩
        · have h6 : 65520 < n := by omega
          have d1 : decide (n < 3) = false := decide_eq_false (by omega)
          have d2 : decide (n < 4) = false := decide_eq_false (by omega)
          go_wp2_with fail
          refine (ERR.out _ _ rfl rfl).mono ?_
          rintro e w5 ⟨rfl, s, rfl⟩
          go_wp2_with fail
          go_ret3
          exact ⟨w1, s1, END.out s _ (Or.inr (Or.inr (by rw [← HN.out]; exact h6)))⟩
  · have HV : Hid (vld D 4 = false) := hv
    have ho : bits .or .i64 ((x : Int) * 256) (y : Int) = ((x * 256 + y : Nat) : Int) := or_bytes x y hx hy
    obtain ⟨n, hn⟩ : ∃ n, n = x * 256 + y := ⟨_, rfl⟩
    rw [← hn] at ho
    clear hn hv
    go_wp2_with fail
    refine (ERR.out _ _ rfl rfl).mono ?_
    rintro e w5 ⟨rfl, s, rfl⟩
    go_wp2_with fail
    go_ret3
    exact ⟨w1, s1, END.out s _ (Or.inl HV.out)⟩
end Go.Proofs.YbulkaewgFmt
