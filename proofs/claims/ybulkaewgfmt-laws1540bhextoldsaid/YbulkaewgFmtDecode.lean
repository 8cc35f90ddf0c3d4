/-
  hex.Decode over the four bytes of the length field. By the prover of seat b1540aF.
-/
import Derived.Test.YbulkaewgFmtShelf
import Derived.Test.YbulkaewgFmtNib
namespace Go.Proofs.YbulkaewgFmt
open Go.RowKit Go.Lib Go.Shelf

/-- how hex.Decode ends over the four bytes of D -/
def DPost (D : List Int) (nb : Nat) (w : World) (e : Ending) (w' : World) : Prop :=
  w.grownBy w' (some nb) ∧ ((vld D 4 = true ∧ e = .returned (.tuple #[.int .i64 2, .nilIface]) ∧ w'.cell? ⟨nb, 0, none⟩ = some (.int .u8 ((nv (D.getD 0 0) * 16 + nv (D.getD 1 0) : Nat) : Int)) ∧ w'.cell? ⟨nb, 1, none⟩ = some (.int .u8 ((nv (D.getD 2 0) * 16 + nv (D.getD 3 0) : Nat) : Int))) ∨
    (vld D 4 = false ∧ ∃ (m c : Int) (x y : Nat), e = .returned (.tuple #[.int .i64 m, .iface 59 (.int .u8 c)]) ∧ w'.cell? ⟨nb, 0, none⟩ = some (.int .u8 (x : Int)) ∧ w'.cell? ⟨nb, 1, none⟩ = some (.int .u8 (y : Int)) ∧ x < 256 ∧ y < 256))

theorem rowP_small (pre : List UInt8) (j : Nat) : ∃ x : Nat, x < 256 ∧ Hx.rowP (fun _ => .int .u8 0) 0 pre j = .int .u8 (x : Int) := by
  unfold Hx.rowP
  split
  · exact ⟨_, UInt8.toNat_lt _, rfl⟩
  · exact ⟨0, by omega, rfl⟩

theorem dec_calls (D : List Int) (nb pb : Nat) (w : World) (ev : Value) (hD : ∀ j, j < 4 → 0 ≤ D.getD j 0 ∧ D.getD j 0 < 256) (hsrc : ∀ j, j < 4 → w.cell? ⟨pb, 1 + j, none⟩ = some (.int .u8 (D.getD j 0)))
    (hrow : w.rowIs nb 54 2 (fun _ => .int .u8 0)) (hne : nb ≠ pb) (hE : w.cell? ⟨4, 0, none⟩ = some ev) (hgb : 4 ≠ nb) :
    Calls Ybaf.prog 14 #[.slice (some ⟨nb, 0, none⟩) 2 2, .slice (some ⟨pb, 1, none⟩) 4 65520] w (DPost D nb w) := by
  have at4 : ∀ j, j < 4 → [D.getD 0 0, D.getD 1 0, D.getD 2 0, D.getD 3 0].getD j 0 = D.getD j 0 := fun j hj => match j, hj with
    | 0, _ => rfl
    | 1, _ => rfl
    | 2, _ => rfl
    | 3, _ => rfl
  have h : Calls Ybaf.prog 14 #[.slice (some ⟨nb, 0, none⟩) 2 2, .slice (some ⟨pb, 1, none⟩) 4 65520] w fun e w' =>
      e = .returned (.tuple #[.int .i64 ((Hx.decode (Lib.bytesOf [D.getD 0 0, D.getD 1 0, D.getD 2 0, D.getD 3 0])).1.length : Int), Hx.errVal 59 ev (Hx.decode (Lib.bytesOf [D.getD 0 0, D.getD 1 0, D.getD 2 0, D.getD 3 0])).2]) ∧ w'.rowIs nb 54 2 (Hx.rowP (fun _ => .int .u8 0) 0 (Hx.decode (Lib.bytesOf [D.getD 0 0, D.getD 1 0, D.getD 2 0, D.getD 3 0])).1) ∧ w.grownBy w' (some nb) :=
    Any.hex_Decode_tag Ybaf.lays44 54 nb 0 2 2 2 (fun _ => .int .u8 0) pb 1 4 65520 [D.getD 0 0, D.getD 1 0, D.getD 2 0, D.getD 3 0] w ev rfl (fun j hj => by rw [at4 j hj]; exact hD j hj) (fun j hj => by rw [at4 j hj]; exact hsrc j hj) hrow (by omega) (by omega) hne (by omega) hE hgb
  obtain ⟨d1, d2⟩ := decode4 D hD
  refine h.mono ?_
  rintro e w' ⟨rfl, hr, hg⟩
  refine ⟨hg, ?_⟩
  cases hv : vld D 4 with
  | true =>
    rw [d1 hv] at hr ⊢
    have l0 := nv_lt (D.getD 0 0)
    have l1 := nv_lt (D.getD 1 0)
    have l2 := nv_lt (D.getD 2 0)
    have l3 := nv_lt (D.getD 3 0)
    have c0 := hr.cell (i := 0) (by omega)
    have c1 := hr.cell (i := 1) (by omega)
    refine Or.inl ⟨rfl, rfl, ?_, ?_⟩
    · rw [c0]
      simp only [Hx.rowP]
      simp [-List.getD_eq_getElem?_getD]
      omega
    · rw [c1]
      simp only [Hx.rowP]
      simp [-List.getD_eq_getElem?_getD]
      omega
  | false =>
    obtain ⟨pre, c, e⟩ := d2 hv
    rw [e] at hr ⊢
    obtain ⟨x, hx, ex⟩ := rowP_small pre 0
    obtain ⟨y, hy, ey⟩ := rowP_small pre 1
    exact Or.inr ⟨rfl, _, _, x, y, rfl, by rw [hr.cell (i := 0) (by omega), ex], by rw [hr.cell (i := 1) (by omega), ey], hx, hy⟩
end Go.Proofs.YbulkaewgFmt
