/-
  The frame relation of this seat's walks ('Frm'), the position's encoding ('at'), a row of heap entries as cells. By the prover of seat b1537a.
-/
import Derived.Test.YbulkaeuqRows
import Derived.WalkKit
import Derived.Laws.BitsLemmas
import Derived.Deep.Draws
import Derived.BigRegion
import Derived.BigQuiet
import Derived.Deep.RegionWith
import Derived.Deep.RegionLaw
namespace Go.Proofs.Ybulkaeuq
open Go.RowKit

theorem ret_int {k : IntKind} {a b : Int} (h : a = b) : Ending.returned (.int k a) = .returned (.int k b) := by rw [h]

theorem wraps_i64_62 (n : Int) (h₀ : 0 ≤ n) (h₁ : n < 2 ^ 62) : IntKind.i64.wrap n = n := by rw [IntKind.wrap_i64]; omega

theorem or_at (i p : Int) (h1 : 0 ≤ p) (h2 : p < 1024) (h3 : 0 ≤ i) (h4 : i < 1000000000) : bits .or .i64 (i * 1024) p = i * 1024 + p :=
  bits_join .i64 62 (by decide) wraps_i64_62 10 (i * 1024) p (by omega) (by omega) (by omega) h1 (by omega) (by omega)

theorem and_at (i p : Int) (h1 : 0 ≤ p) (h2 : p < 1024) (h3 : 0 ≤ i) (h4 : i < 1000000000) : bits .and .i64 (i * 1024 + p) 1023 = p := by
  have h := bits_mask .i64 62 (by decide) wraps_i64_62 10 (by decide) (i * 1024 + p) (by omega) (by omega)
  have e : ((2 : Int) ^ 10 - 1) = 1023 := by decide
  have e2 : ((2 : Int) ^ 10) = 1024 := by decide
  rw [e, e2] at h
  rw [h]
  omega

set_option maxHeartbeats 400000 in
theorem at_calls (p i : Int) (w : World) (h1 : 0 ≤ p) (h2 : p < 1024) (h3 : 0 ≤ i) (h4 : i < 1000000000) :
    Calls Yba.prog 17 #[.int .i64 p, .int .i64 i] w fun e w' => e = .returned (.int .i64 (i * 1024 + p)) ∧ w' = w := by
  go_enter Yba.func17, Yba.ntmps17
  go_wp2
  go_ret
  exact ⟨ret_int (or_at i p h1 h2 h3 h4), rfl⟩

/-! ### THE FRAME: 'Frm w w' S': of what lay in w only the cells of S may have turned; where S leaves a cell of a block alone, the block's kind, its length and its frozen marks stand too. -/
structure Frm (w w' : World) (S : Nat → Nat → Prop) : Prop where
  os : w'.os = w.os
  tape : w'.tape = w.tape
  output : w'.output = w.output
  size : w.heap.size ≤ w'.heap.size
  blk : ∀ k, k < w.heap.size → (∀ o, ¬ S k o) → w'.heap[k]? = w.heap[k]?
  cell : ∀ k o, k < w.heap.size → ¬ S k o → w'.cell? ⟨k, o, none⟩ = w.cell? ⟨k, o, none⟩
  frz : ∀ k o, k < w.heap.size → (∃ o', ¬ S k o') → w'.frozen? ⟨k, o, none⟩ = w.frozen? ⟨k, o, none⟩
  shp : ∀ k, k < w.heap.size → (∃ o', ¬ S k o') → w'.shape? k = w.shape? k

theorem Frm.refl (w : World) (S : Nat → Nat → Prop) : Frm w w S :=
  ⟨rfl, rfl, rfl, Nat.le_refl _, fun _ _ _ => rfl, fun _ _ _ _ => rfl, fun _ _ _ _ => rfl, fun _ _ _ => rfl⟩

theorem Frm.trans {a b c : World} {S : Nat → Nat → Prop} (h : Frm a b S) (k : Frm b c S) : Frm a c S :=
  ⟨k.os.trans h.os, k.tape.trans h.tape, k.output.trans h.output, Nat.le_trans h.size k.size,
   fun i hi hs => (k.blk i (Nat.lt_of_lt_of_le hi h.size) hs).trans (h.blk i hi hs),
   fun i o hi hs => (k.cell i o (Nat.lt_of_lt_of_le hi h.size) hs).trans (h.cell i o hi hs),
   fun i o hi hs => (k.frz i o (Nat.lt_of_lt_of_le hi h.size) hs).trans (h.frz i o hi hs),
   fun i hi hs => (k.shp i (Nat.lt_of_lt_of_le hi h.size) hs).trans (h.shp i hi hs)⟩

theorem Frm.mono {a b : World} {S T : Nat → Nat → Prop} (h : Frm a b S) (hT : ∀ k o, k < a.heap.size → S k o → T k o) : Frm a b T :=
  ⟨h.os, h.tape, h.output, h.size,
   fun i hi hs => h.blk i hi (fun o ho => hs o (hT i o hi ho)),
   fun i o hi hs => h.cell i o hi (fun ho => hs (hT i o hi ho)),
   fun i o hi ⟨o', ho'⟩ => h.frz i o hi ⟨o', fun ho => ho' (hT i o' hi ho)⟩,
   fun i hi ⟨o', ho'⟩ => h.shp i hi ⟨o', fun ho => ho' (hT i o' hi ho)⟩⟩

/-- of the second leg only what touches old blocks counts -/
theorem Frm.trans2 {a b c : World} {S T : Nat → Nat → Prop} (h : Frm a b S) (k : Frm b c T) (hT : ∀ i o, i < a.heap.size → T i o → S i o) : Frm a c S :=
  ⟨k.os.trans h.os, k.tape.trans h.tape, k.output.trans h.output, Nat.le_trans h.size k.size,
   fun i hi hs => (k.blk i (Nat.lt_of_lt_of_le hi h.size) (fun o ho => hs o (hT i o hi ho))).trans (h.blk i hi hs),
   fun i o hi hs => (k.cell i o (Nat.lt_of_lt_of_le hi h.size) (fun ho => hs (hT i o hi ho))).trans (h.cell i o hi hs),
   fun i o hi ⟨o', ho'⟩ => (k.frz i o (Nat.lt_of_lt_of_le hi h.size) ⟨o', fun ho => ho' (hT i o' hi ho)⟩).trans (h.frz i o hi ⟨o', ho'⟩),
   fun i hi ⟨o', ho'⟩ => (k.shp i (Nat.lt_of_lt_of_le hi h.size) ⟨o', fun ho => ho' (hT i o' hi ho)⟩).trans (h.shp i hi ⟨o', ho'⟩)⟩

theorem Frm.of_block {w w' : World} (S : Nat → Nat → Prop) (h1 : w'.os = w.os) (h2 : w'.tape = w.tape) (h3 : w'.output = w.output) (h4 : w.heap.size ≤ w'.heap.size)
    (h5 : ∀ k, k < w.heap.size → (∃ o, ¬ S k o) → w'.heap[k]? = w.heap[k]?) : Frm w w' S :=
  ⟨h1, h2, h3, h4, fun k hk hs => h5 k hk ⟨0, hs 0⟩, fun k o hk hs => World.cell?_of_block (w := w) (a := ⟨k, o, none⟩) (h5 k hk ⟨o, hs⟩),
   fun k o hk hs => World.frozen?_of_block (w := w) (a := ⟨k, o, none⟩) (h5 k hk hs), fun k hk hs => by simp [World.shape?, h5 k hk hs]⟩

theorem Frm.alloc (w : World) (o : Obj) (S : Nat → Nat → Prop) : Frm w (w.alloc o) S :=
  Frm.of_block S rfl rfl rfl (by simp) fun k hk _ => Below.heap_alloc w o k hk

theorem Frm.drew (w : World) (S : Nat → Nat → Prop) : Frm w w.drew S :=
  Frm.of_block S rfl rfl rfl (Nat.le_refl _) fun _ _ _ => rfl

theorem Frm.drewN (w : World) (n : Nat) (S : Nat → Nat → Prop) : Frm w (w.drewN n) S :=
  Frm.of_block S rfl rfl rfl (Nat.le_refl _) fun _ _ _ => rfl

theorem Frm.grown {w w' : World} {row : Option Nat} (h : w.grownBy w' row) (S : Nat → Nat → Prop) (hr : ∀ k, row = some k → ∀ o, S k o) : Frm w w' S :=
  Frm.of_block S h.os h.tape h.output h.size fun k hk ⟨o, ho⟩ => h.block k hk (fun e => ho (hr k e.symm o))

theorem shape?_setCell (w : World) (a : Addr) (v : Value) (k : Nat) : (w.setCell a v).shape? k = w.shape? k := by
  simp only [World.shape?, World.setCell, Array.getElem?_modify]
  by_cases h : a.block = k
  · subst h
    rw [if_pos rfl]
    cases hh : w.heap[a.block]? with
    | none => simp
    | some o => cases o <;> simp <;> split <;> simp
  · rw [if_neg h]

theorem Frm.setCell (w : World) (b o : Nat) (v : Value) (S : Nat → Nat → Prop) (h : S b o) : Frm w (w.setCell ⟨b, o, none⟩ v) S :=
  ⟨rfl, rfl, rfl, by simp, fun k _ hs => Below.heap_setCell _ _ _ _ (fun e => hs o (e ▸ h)),
   fun k o' _ hs => World.cell?_setCell_other _ _ _ _ (fun e => by simp only [Addr.mk.injEq, and_true] at e; exact hs (e.1 ▸ e.2 ▸ h)),
   fun k o' _ _ => by simp, fun k _ _ => shape?_setCell _ _ _ _⟩

/-- Nothing below B is let go: 'Below'. -/
theorem Frm.below {w w' : World} {S : Nat → Nat → Prop} (h : Frm w w' S) (B : Nat) (hB : B ≤ w.heap.size) (hS : ∀ k o, k < B → ¬ S k o) : Below B w w' :=
  ⟨h.os, h.tape, h.output, h.size, fun k hk => h.blk k (Nat.lt_of_lt_of_le hk hB) (fun o => hS k o hk)⟩

theorem Frm.of_below {w w' : World} {S : Nat → Nat → Prop} (h : Below w.heap.size w w') : Frm w w' S :=
  Frm.of_block S h.os h.tape h.output h.size fun k hk _ => h.block k hk

/-! ### A row of entries -/
def cellsOf (es : List (Int × Nat)) : List Value := es.flatMap fun p => [.int .i64 p.1, .pointer (some ⟨p.2, 0, none⟩)]

theorem cellsOf_nil : cellsOf [] = [] := rfl
theorem cellsOf_cons (p : Int × Nat) (es : List (Int × Nat)) : cellsOf (p :: es) = .int .i64 p.1 :: .pointer (some ⟨p.2, 0, none⟩) :: cellsOf es := rfl
theorem cellsOf_append (es fs : List (Int × Nat)) : cellsOf (es ++ fs) = cellsOf es ++ cellsOf fs := by simp [cellsOf]
theorem cellsOf_length (es : List (Int × Nat)) : (cellsOf es).length = es.length * 2 := by
  induction es with
  | nil => rfl
  | cons p es ih => rw [cellsOf_cons]; simp [ih]; omega
theorem cellsOf_even (es : List (Int × Nat)) (i : Nat) (h : i < es.length) : (cellsOf es)[i * 2]? = some (.int .i64 es[i].1) := by
  induction es generalizing i with
  | nil => simp at h
  | cons p es ih =>
    rw [cellsOf_cons]
    cases i with
    | zero => simp
    | succ i => rw [show (i + 1) * 2 = i * 2 + 1 + 1 by omega]; simp at h ⊢; exact ih i h
theorem cellsOf_odd (es : List (Int × Nat)) (i : Nat) (h : i < es.length) : (cellsOf es)[i * 2 + 1]? = some (.pointer (some ⟨es[i].2, 0, none⟩)) := by
  induction es generalizing i with
  | nil => simp at h
  | cons p es ih =>
    rw [cellsOf_cons]
    cases i with
    | zero => simp
    | succ i => rw [show (i + 1) * 2 + 1 = i * 2 + 1 + 1 + 1 by omega]; simp at h ⊢; exact ih i h
theorem cellsOf_set (es : List (Int × Nat)) (i : Nat) (p : Int × Nat) : ((cellsOf es).set (i * 2) (.int .i64 p.1)).set (i * 2 + 1) (.pointer (some ⟨p.2, 0, none⟩)) = cellsOf (es.set i p) := by
  induction es generalizing i with
  | nil => simp [cellsOf]
  | cons q es ih =>
    rw [cellsOf_cons]
    cases i with
    | zero => simp [cellsOf_cons]
    | succ i => rw [show (i + 1) * 2 + 1 = i * 2 + 1 + 1 + 1 by omega, show (i + 1) * 2 = i * 2 + 1 + 1 by omega]; simp [cellsOf_cons, ih]
end Go.Proofs.Ybulkaeuq
