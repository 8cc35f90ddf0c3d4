/-
  The listed variables as the start lays them. By the prover of seat b1540aF.
-/
import Derived.Test.YbulkaewgFmtRows
import Derived.Stop.LaidErr
namespace Go.Proofs.YbulkaewgFmt
open Go.RowKit Go.Stop Go.Extern.Stop Go.Extern Go

theorem sentinel_at {P : Program} {n nm : String} {text : List UInt8} {r : List (String × DataW Unit)} {W : World} {g : Nat} {ti tp te ts : TypeId} {ms : Array (String × TypeId)} {f : Field}
    (h : laidMet P ((n, .iface nm (.ptr (.agg [.lit (.string text)]))) :: r) W)
    (hg : P.globalNamed n = some g) (ht : (P.globals[g]?).map (·.type) = some ti) (hi : P.underlying ti = some (.interface ms)) (hrow : ∀ u, P.typeName? 3 u = some nm → u = tp)
    (hp : P.underlying tp = some (.pointer te)) (he : P.underlying te = some (.struct #[f])) (hft : f.type = ts) (hfo : f.offset = 0) (hs : P.underlying ts = some .string) (hc : P.cellsOf te = 1) (hcs : P.cellsOf ts = 1) :
    ∃ (a : Addr) (ca : Array Value) (ta : TypeId), W.cell? ⟨g, 0, none⟩ = some (.iface tp (.pointer (some a))) ∧ W.heap[a.block]? = some (.cells ca ta (0, 0)) := by
  obtain ⟨ps, ⟨g0, t0, cs0, f0, p0, q0, hg0, ht0, hv0, hd0, _, e0⟩, _, hrows⟩ := h
  obtain rfl := Option.some.inj (hg.symm.trans hg0)
  obtain rfl := Option.some.inj (ht.symm.trans ht0)
  subst e0
  obtain ⟨l0⟩ := cs0
  have ok0 : ∀ u v, l0 = [.iface u v] → Value.okWide P W .any 0 u v := fun u v e => by
    subst e
    exact (hrows g 0 (by simp [MemPlace.row])).2 u v (by simpa using World.var?_cell hg0 hv0 0)
  obtain ⟨a0, s0, rfl, hc0, hs0, hz0, hpl⟩ := errorString_of_trod hi hrow hp he hft hfo hs hc hcs hd0 ok0
  subst hpl
  obtain ⟨⟨ca, ta, hh⟩, _⟩ := hrows a0.block a0.off (List.mem_append_left _ (List.mem_append_right _ (by simp [MemPlace.row])))
  exact ⟨a0, ca, ta, by simpa using World.var?_cell hg0 hv0 0, hh⟩

theorem Ybaf.cells45 : Ybaf.prog.cellsOf 45 = 1 := by kernel_rfl
theorem Ybaf.cells9 : Ybaf.prog.cellsOf 9 = 1 := by kernel_rfl
/-- the type's name that an interface datum bears -/
def nameOf (d : DataW Unit) : String := match d with
  | .iface n _ => n
  | _ => ""
theorem Ybaf.row43 (u : TypeId) (h : Ybaf.prog.typeName? 3 u = some (nameOf Rows.laid_io_EOF)) : u = 43 :=
  typeName_ptr_named (nm := "errors.errorString") (by kernel_rfl) (by kernel_rfl) (by decide) u (h.trans (congrArg some (by decide)))

/-- what the six listed variables give the walks -/
theorem laid_parts {W : World} (h : laidMet Ybaf.prog Rows.lawS1540BFailRow.laid W) :
    (∃ (a : Addr) (ca : Array Value) (ta : TypeId), W.cell? ⟨2, 0, none⟩ = some (.iface 43 (.pointer (some a))) ∧ W.heap[a.block]? = some (.cells ca ta (0, 0))) ∧
    (∃ (a : Addr) (ca : Array Value) (ta : TypeId), W.cell? ⟨3, 0, none⟩ = some (.iface 43 (.pointer (some a))) ∧ W.heap[a.block]? = some (.cells ca ta (0, 0))) :=
  ⟨sentinel_at (g := 2) (laidMet.tail h) (by kernel_rfl) (by kernel_rfl) Ybaf.underlying29 Ybaf.row43 Ybaf.underlying43 Ybaf.underlying45 rfl rfl Ybaf.underlying9 Ybaf.cells45 Ybaf.cells9,
   sentinel_at (g := 3) (laidMet.tail (laidMet.tail h)) (by kernel_rfl) (by kernel_rfl) Ybaf.underlying29 Ybaf.row43 Ybaf.underlying43 Ybaf.underlying45 rfl rfl Ybaf.underlying9 Ybaf.cells45 Ybaf.cells9⟩
end Go.Proofs.YbulkaewgFmt
