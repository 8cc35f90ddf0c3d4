/-
  All six listed variables as the start lays them, in the form that the walks want. By the prover of seat b1540aF.
-/
import Derived.Test.YbulkaewgFmtLaid
import Derived.Test.YbulkaewgFmtCheckAll
namespace Go.Proofs.YbulkaewgFmt
open Go.RowKit Go.Stop Go.Extern.Stop Go.Extern Go

theorem trod_int_at {H : Type} {enc : TypeId × Value → H} {P : Program} {w : World} {base : Nat} {sp : Nat → Bool} {held : Bool} {fuel : Nat} {t : TypeId} {x : Value} {k : IntKind} {n : Int} {p : List MemPlace}
    (hu : P.underlying t = some (.int k)) (h : DataW.trod enc P w base sp held fuel t [x] = some (.lit (.int k n), p)) : x = .int k n := by
  cases fuel with
  | zero => simp [DataW.trod] at h
  | succ f =>
    unfold DataW.trod at h
    rw [hu] at h
    cases x <;> simp at h
    obtain ⟨⟨rfl, _⟩, rfl, _⟩ := h
    rfl

theorem trod_arr3 {H : Type} {enc : TypeId × Value → H} {P : Program} {w : World} {base : Nat} {sp : Nat → Bool} {held : Bool} {fuel : Nat} {t e : TypeId} {cs : List Value} {k : IntKind} {a b c : Int} {p : List MemPlace}
    (hu : P.underlying t = some (.array 3 e)) (he : P.underlying e = some (.int k)) (hc : P.cellsOf t = 3) (hce : P.cellsOf e = 1) (h : DataW.trod enc P w base sp held fuel t cs = some (.agg [.lit (.int k a), .lit (.int k b), .lit (.int k c)], p)) : cs = [.int k a, .int k b, .int k c] := by
  cases fuel with
  | zero => simp [DataW.trod] at h
  | succ f =>
    unfold DataW.trod at h
    rw [hu] at h
    simp only [hc, hce] at h
    split at h
    · rename_i hl
      match cs, hl with
      | [x, y, z], _ =>
        simp [List.range_succ, List.mapM_cons, Option.bind_eq_some_iff] at h
        obtain ⟨d1, p1, h1, _, ⟨d2, p2, h2, _, ⟨d3, p3, h3, rfl⟩, rfl⟩, ⟨rfl, hm⟩, _⟩ := h
        simp at hm
        obtain ⟨rfl, rfl⟩ := hm
        rw [trod_int_at he h1, trod_int_at he h2, trod_int_at he h3]
    · cases h

theorem Ybaf.cells56 : Ybaf.prog.cellsOf 56 = 3 := by kernel_rfl
theorem Ybaf.cells36 : Ybaf.prog.cellsOf 36 = 1 := by kernel_rfl

theorem special_at {n : String} {r : List (String × DataW Unit)} {W : World} (h : laidMet Ybaf.prog ((n, .agg [.lit (.int .i64 1), .lit (.int .i64 2), .lit (.int .i64 3)]) :: r) W)
    (hg : Ybaf.prog.globalNamed n = some 1) (ht : (Ybaf.prog.globals[1]?).map (·.type) = some 56) : ∀ k, k < 3 → W.cell? ⟨1, k, none⟩ = some (.int .i64 ((k : Int) + 1)) := by
  obtain ⟨ps, ⟨g0, t0, cs0, f0, p0, q0, hg0, ht0, hv0, hd0, _, e0⟩, _, hrows⟩ := h
  obtain rfl := Option.some.inj (hg.symm.trans hg0)
  obtain rfl := Option.some.inj (ht.symm.trans ht0)
  have e := trod_arr3 Ybaf.underlying56 Ybaf.underlying36 Ybaf.cells56 Ybaf.cells36 hd0
  obtain ⟨l0⟩ := cs0
  simp only at e
  subst e
  intro k hk
  rw [World.var?_cell hg0 hv0 k]
  match k, hk with
  | 0, _ => rfl
  | 1, _ => rfl
  | 2, _ => rfl

theorem laid_vars {W : World} (h : laidMet Ybaf.prog Rows.lawS1540BRawRow.laid W) : ∃ a0 a2 a3, Vars a0 a2 a3 W := by
  obtain ⟨a2, c2, t2, g2, b2⟩ := sentinel_at (g := 2) (laidMet.tail h) (by kernel_rfl) (by kernel_rfl) Ybaf.underlying29 Ybaf.row43 Ybaf.underlying43 Ybaf.underlying45 rfl rfl Ybaf.underlying9 Ybaf.cells45 Ybaf.cells9
  obtain ⟨a3, c3, t3, g3, b3⟩ := sentinel_at (g := 3) (laidMet.tail (laidMet.tail h)) (by kernel_rfl) (by kernel_rfl) Ybaf.underlying29 Ybaf.row43 Ybaf.underlying43 Ybaf.underlying45 rfl rfl Ybaf.underlying9 Ybaf.cells45 Ybaf.cells9
  obtain ⟨a4, c4, t4, g4, b4⟩ := sentinel_at (g := 4) (laidMet.tail (laidMet.tail (laidMet.tail h))) (by kernel_rfl) (by kernel_rfl) Ybaf.underlying29 Ybaf.row43 Ybaf.underlying43 Ybaf.underlying45 rfl rfl Ybaf.underlying9 Ybaf.cells45 Ybaf.cells9
  obtain ⟨a5, c5, t5, g5, b5⟩ := sentinel_at (g := 5) h (by kernel_rfl) (by kernel_rfl) Ybaf.underlying29 Ybaf.row43 Ybaf.underlying43 Ybaf.underlying45 rfl rfl Ybaf.underlying9 Ybaf.cells45 Ybaf.cells9
  have g1 := special_at (laidMet.tail (laidMet.tail (laidMet.tail (laidMet.tail h)))) (by kernel_rfl) (by kernel_rfl)
  obtain ⟨a0, c0, t0, g0, b0⟩ := sentinel_at (g := 0) (laidMet.tail (laidMet.tail (laidMet.tail (laidMet.tail (laidMet.tail h))))) (by kernel_rfl) (by kernel_rfl) Ybaf.underlying29 Ybaf.row43 Ybaf.underlying43 Ybaf.underlying45 rfl rfl Ybaf.underlying9 Ybaf.cells45 Ybaf.cells9
  exact ⟨a0, a2, a3, g0, g1, g2, g3, ⟨_, g4⟩, ⟨_, _, b0⟩, ⟨_, _, b2⟩, ⟨_, _, b3⟩, World.block_lt_of_cell? W _ g5⟩
end Go.Proofs.YbulkaewgFmt
