/-
  The frame relation of this seat's walks ('Frm'); the reader in memory ('Rd') and its method Read. By the prover of seat b1540aF.
-/
import Derived.Test.YbulkaewgFmtBytes
import Derived.Laws.IdiomCopy
import Derived.Deep.RegionLaw
namespace Go.Proofs.YbulkaewgFmt
open Go.RowKit

/-! ### THE FRAME: 'Frm w w' S': of what lay in w only the cells of S may have turned; where S leaves a cell of a block alone, the block's kind, its length and its frozen marks stand too. -/
structure Frm (w w' : World) (S : Nat → Nat → Prop) : Prop where
  os : w'.os = w.os
  tape : w'.tape = w.tape
  output : w'.output = w.output
  size : w.heap.size ≤ w'.heap.size
  blk : ∀ k, k < w.heap.size → (∀ o, ¬ S k o) → w'.heap[k]? = w.heap[k]?
  cell : ∀ k o, k < w.heap.size → ¬ S k o → w'.cell? ⟨k, o, none⟩ = w.cell? ⟨k, o, none⟩
  frz : ∀ k o, k < w.heap.size → (∃ o', ¬ S k o') → w'.frozen? ⟨k, o, none⟩ = w.frozen? ⟨k, o, none⟩
  shp : ∀ k, k < w.heap.size → (∃ o', ¬ S k o') → w'.shape? k = w.shape? k

theorem Frm.refl (w : World) (S : Nat → Nat → Prop) : Frm w w S :=
  ⟨rfl, rfl, rfl, Nat.le_refl _, fun _ _ _ => rfl, fun _ _ _ _ => rfl, fun _ _ _ _ => rfl, fun _ _ _ => rfl⟩

theorem Frm.trans {a b c : World} {S : Nat → Nat → Prop} (h : Frm a b S) (k : Frm b c S) : Frm a c S :=
  ⟨k.os.trans h.os, k.tape.trans h.tape, k.output.trans h.output, Nat.le_trans h.size k.size,
   fun i hi hs => (k.blk i (Nat.lt_of_lt_of_le hi h.size) hs).trans (h.blk i hi hs),
   fun i o hi hs => (k.cell i o (Nat.lt_of_lt_of_le hi h.size) hs).trans (h.cell i o hi hs),
   fun i o hi hs => (k.frz i o (Nat.lt_of_lt_of_le hi h.size) hs).trans (h.frz i o hi hs),
   fun i hi hs => (k.shp i (Nat.lt_of_lt_of_le hi h.size) hs).trans (h.shp i hi hs)⟩

theorem Frm.mono {a b : World} {S T : Nat → Nat → Prop} (h : Frm a b S) (hT : ∀ k o, k < a.heap.size → S k o → T k o) : Frm a b T :=
  ⟨h.os, h.tape, h.output, h.size,
   fun i hi hs => h.blk i hi (fun o ho => hs o (hT i o hi ho)),
   fun i o hi hs => h.cell i o hi (fun ho => hs (hT i o hi ho)),
   fun i o hi ⟨o', ho'⟩ => h.frz i o hi ⟨o', fun ho => ho' (hT i o' hi ho)⟩,
   fun i hi ⟨o', ho'⟩ => h.shp i hi ⟨o', fun ho => ho' (hT i o' hi ho)⟩⟩

/-- of the second leg only what touches old blocks counts -/
theorem Frm.trans2 {a b c : World} {S T : Nat → Nat → Prop} (h : Frm a b S) (k : Frm b c T) (hT : ∀ i o, i < a.heap.size → T i o → S i o) : Frm a c S :=
  ⟨k.os.trans h.os, k.tape.trans h.tape, k.output.trans h.output, Nat.le_trans h.size k.size,
   fun i hi hs => (k.blk i (Nat.lt_of_lt_of_le hi h.size) (fun o ho => hs o (hT i o hi ho))).trans (h.blk i hi hs),
   fun i o hi hs => (k.cell i o (Nat.lt_of_lt_of_le hi h.size) (fun ho => hs (hT i o hi ho))).trans (h.cell i o hi hs),
   fun i o hi ⟨o', ho'⟩ => (k.frz i o (Nat.lt_of_lt_of_le hi h.size) ⟨o', fun ho => ho' (hT i o' hi ho)⟩).trans (h.frz i o hi ⟨o', ho'⟩),
   fun i hi ⟨o', ho'⟩ => (k.shp i (Nat.lt_of_lt_of_le hi h.size) ⟨o', fun ho => ho' (hT i o' hi ho)⟩).trans (h.shp i hi ⟨o', ho'⟩)⟩

theorem Frm.of_block {w w' : World} (S : Nat → Nat → Prop) (h1 : w'.os = w.os) (h2 : w'.tape = w.tape) (h3 : w'.output = w.output) (h4 : w.heap.size ≤ w'.heap.size)
    (h5 : ∀ k, k < w.heap.size → (∃ o, ¬ S k o) → w'.heap[k]? = w.heap[k]?) : Frm w w' S :=
  ⟨h1, h2, h3, h4, fun k hk hs => h5 k hk ⟨0, hs 0⟩, fun k o hk hs => World.cell?_of_block (w := w) (a := ⟨k, o, none⟩) (h5 k hk ⟨o, hs⟩),
   fun k o hk hs => World.frozen?_of_block (w := w) (a := ⟨k, o, none⟩) (h5 k hk hs), fun k hk hs => by simp [World.shape?, h5 k hk hs]⟩

theorem Frm.alloc (w : World) (o : Obj) (S : Nat → Nat → Prop) : Frm w (w.alloc o) S :=
  Frm.of_block S rfl rfl rfl (by simp) fun k hk _ => Below.heap_alloc w o k hk

theorem Frm.drew (w : World) (S : Nat → Nat → Prop) : Frm w w.drew S :=
  Frm.of_block S rfl rfl rfl (Nat.le_refl _) fun _ _ _ => rfl

theorem Frm.drewN (w : World) (n : Nat) (S : Nat → Nat → Prop) : Frm w (w.drewN n) S :=
  Frm.of_block S rfl rfl rfl (Nat.le_refl _) fun _ _ _ => rfl

theorem Frm.grown {w w' : World} {row : Option Nat} (h : w.grownBy w' row) (S : Nat → Nat → Prop) (hr : ∀ k, row = some k → ∀ o, S k o) : Frm w w' S :=
  Frm.of_block S h.os h.tape h.output h.size fun k hk ⟨o, ho⟩ => h.block k hk (fun e => ho (hr k e.symm o))

theorem shape?_setCell (w : World) (a : Addr) (v : Value) (k : Nat) : (w.setCell a v).shape? k = w.shape? k := by
  simp only [World.shape?, World.setCell, Array.getElem?_modify]
  by_cases h : a.block = k
  · subst h
    rw [if_pos rfl]
    cases hh : w.heap[a.block]? with
    | none => simp
    | some o => cases o <;> simp <;> split <;> simp
  · rw [if_neg h]

theorem Frm.setCell (w : World) (b o : Nat) (v : Value) (S : Nat → Nat → Prop) (h : S b o) : Frm w (w.setCell ⟨b, o, none⟩ v) S :=
  ⟨rfl, rfl, rfl, by simp, fun k _ hs => Below.heap_setCell _ _ _ _ (fun e => hs o (e ▸ h)),
   fun k o' _ hs => World.cell?_setCell_other _ _ _ _ (fun e => by simp only [Addr.mk.injEq, and_true] at e; exact hs (e.1 ▸ e.2 ▸ h)),
   fun k o' _ _ => by simp, fun k _ _ => shape?_setCell _ _ _ _⟩

/-- Nothing below B is let go: 'Below'. -/
theorem Frm.below {w w' : World} {S : Nat → Nat → Prop} (h : Frm w w' S) (B : Nat) (hB : B ≤ w.heap.size) (hS : ∀ k o, k < B → ¬ S k o) : Below B w w' :=
  ⟨h.os, h.tape, h.output, h.size, fun k hk => h.blk k (Nat.lt_of_lt_of_le hk hB) (fun o => hS k o hk)⟩

theorem Frm.of_below {w w' : World} {S : Nat → Nat → Prop} (h : Below w.heap.size w w') : Frm w w' S :=
  Frm.of_block S h.os h.tape h.output h.size fun k hk _ => h.block k hk


theorem frm_setCells (b : Nat) {S : Nat → Nat → Prop} : ∀ (vs : List Value) (o : Nat) (w : World), (∀ j, j < vs.length → S b (o + j)) → Frm w (w.setCells b o vs) S
  | [], _, w, _ => Frm.refl w _
  | v :: vs, o, w, h => (Frm.setCell w b o v S (by have := h 0 (by simp); simpa using this)).trans (frm_setCells b vs (o + 1) _ (fun j hj => by have := h (j + 1) (by simp; omega); rwa [show o + (j + 1) = o + 1 + j by omega] at this))

/-- copy as one step of a region that draws, where its run is known -/
theorem step_copy_run {P : Program} {ops : Array Oper} {o : Oper} {a : Act} {w : World} {K : Act → World → Prop} {Q : Exit → Act → World → Prop} {E : Prop}
    (hg : o.guard = none) (d x : Operand) (dT sT : TypeId) (hop : o.op = Op.call { callee := Callee.builtin Builtin.copy, args := #[d, x], argTypes := #[dT, sT] })
    (v u : Value) (hd : a.eval d = v) (hx : a.eval x = u) {v' : Value} {w' : World} (hr : (Builtin.copy_ #[dT, sT] o.type #[v, u]).run P w = .ok v' w') (hK : K (a.put o.dst v') w') :
    if Region.wanted o (yielded ops a.tmps) = true then Oper.wp P o a w K Q else E := by
  have hw : Region.wanted o (yielded ops a.tmps) = true := by simp [Region.wanted, hg]
  rw [if_pos hw]
  unfold Oper.wp
  simp [execOp, hop, resolve, invoke, builtin, hd, hx, hr, Result.andThen]
  exact hK

/-- the reader's block -/
structure Rd (r db N cap : Nat) (D : List Int) (pos chunk failAt calls : Nat) (ev : Value) (w : World) : Prop where
  c0 : w.cell? ⟨r, 0, none⟩ = some (.slice (some ⟨db, 0, none⟩) N cap)
  c1 : w.cell? ⟨r, 1, none⟩ = some (.int .i64 pos)
  c2 : w.cell? ⟨r, 2, none⟩ = some (.int .i64 chunk)
  c3 : w.cell? ⟨r, 3, none⟩ = some (.int .i64 failAt)
  c4 : w.cell? ⟨r, 4, none⟩ = some (.int .i64 calls)
  c5 : w.cell? ⟨r, 5, none⟩ = some ev
  fz : ∀ o, w.frozen? ⟨r, o, none⟩ = false
  dat : ∀ j, j < N → w.cell? ⟨db, j, none⟩ = some (.int .u8 (D.getD j 0))

theorem ahead31 (r : Nat) (w : World) : (nilAhead 187 31 (.pointer (some ⟨r, 0, none⟩)) "Read").run Ybaf.prog w = .ok (some false) w := by kernel_rfl
theorem method31 (r : Nat) (w : World) : (method 187 31 (.pointer (some ⟨r, 0, none⟩)) "Read").run Ybaf.prog w = .ok (33, .pointer (some ⟨r, 0, none⟩)) w := by kernel_rfl

theorem Rd.called {r db N cap : Nat} {D : List Int} {pos chunk failAt calls : Nat} {ev : Value} {w : World} (h : Rd r db N cap D pos chunk failAt calls ev w) (hne : db ≠ r) {y : Int} (hy : y = ((calls + 1 : Nat) : Int)) :
    Rd r db N cap D pos chunk failAt (calls + 1) ev (w.setCell ⟨r, 4, none⟩ (.int .i64 y)) := by
  subst hy
  refine ⟨?_, ?_, ?_, ?_, World.cell?_setCell_same _ _ _ h.c4, ?_, fun o => (World.frozen?_setCell _ _ _ _).trans (h.fz o), fun j hj => ?_⟩
  · rw [World.cell?_setCell_other _ _ _ _ (by simp)]; exact h.c0
  · rw [World.cell?_setCell_other _ _ _ _ (by simp)]; exact h.c1
  · rw [World.cell?_setCell_other _ _ _ _ (by simp)]; exact h.c2
  · rw [World.cell?_setCell_other _ _ _ _ (by simp)]; exact h.c3
  · rw [World.cell?_setCell_other _ _ _ _ (by simp)]; exact h.c5
  · rw [World.cell?_setCell_other _ _ _ _ (fun e => by simp only [Addr.mk.injEq, and_true] at e; exact hne e.1.symm)]; exact h.dat j hj

theorem Rd.moved {r db N cap : Nat} {D : List Int} {pos chunk failAt calls n : Nat} {ev : Value} {w : World} (h : Rd r db N cap D pos chunk failAt calls ev w) (hne : db ≠ r) {y : Int} (hy : y = ((pos + n : Nat) : Int)) :
    Rd r db N cap D (pos + n) chunk failAt calls ev (w.setCell ⟨r, 1, none⟩ (.int .i64 y)) := by
  subst hy
  refine ⟨?_, World.cell?_setCell_same _ _ _ h.c1, ?_, ?_, ?_, ?_, fun o => (World.frozen?_setCell _ _ _ _).trans (h.fz o), fun j hj => ?_⟩
  · rw [World.cell?_setCell_other _ _ _ _ (by simp)]; exact h.c0
  · rw [World.cell?_setCell_other _ _ _ _ (by simp)]; exact h.c2
  · rw [World.cell?_setCell_other _ _ _ _ (by simp)]; exact h.c3
  · rw [World.cell?_setCell_other _ _ _ _ (by simp)]; exact h.c4
  · rw [World.cell?_setCell_other _ _ _ _ (by simp)]; exact h.c5
  · rw [World.cell?_setCell_other _ _ _ _ (fun e => by simp only [Addr.mk.injEq, and_true] at e; exact hne e.1.symm)]; exact h.dat j hj

theorem Rd.cells {r db N cap : Nat} {D : List Int} {pos chunk failAt calls : Nat} {ev : Value} {w : World} (h : Rd r db N cap D pos chunk failAt calls ev w) (pb po : Nat) (vs : List Value) (h1 : pb ≠ r) (h2 : pb ≠ db) : Rd r db N cap D pos chunk failAt calls ev (w.setCells pb po vs) := by
  have k : ∀ b o, b ≠ pb → (w.setCells pb po vs).cell? ⟨b, o, none⟩ = w.cell? ⟨b, o, none⟩ := fun b o hb => World.cell?_setCells_out pb vs po w _ (fun e => absurd e hb)
  exact ⟨(k r 0 (Ne.symm h1)).trans h.c0, (k r 1 (Ne.symm h1)).trans h.c1, (k r 2 (Ne.symm h1)).trans h.c2, (k r 3 (Ne.symm h1)).trans h.c3, (k r 4 (Ne.symm h1)).trans h.c4, (k r 5 (Ne.symm h1)).trans h.c5, fun o => (World.frozen?_setCells _ _ _ _ _).trans (h.fz o), fun j hj => (k db j (Ne.symm h2)).trans (h.dat j hj)⟩

theorem Rd.drewN {r db N cap : Nat} {D : List Int} {pos chunk failAt calls : Nat} {ev : Value} {w : World} (h : Rd r db N cap D pos chunk failAt calls ev w) (n : Nat) : Rd r db N cap D pos chunk failAt calls ev (w.drewN n) := ⟨h.c0, h.c1, h.c2, h.c3, h.c4, h.c5, h.fz, h.dat⟩

/-- Read where it fails -/
def RFail (r db N cap : Nat) (D : List Int) (pos chunk failAt calls : Nat) (ev : Value) (w : World) (e : Ending) (w' : World) : Prop :=
  e = .returned (.tuple #[.int .i64 0, ev]) ∧ Rd r db N cap D pos chunk failAt (calls + 1) ev w' ∧ Frm w w' (fun k o => k = r ∧ o = 4)

set_option maxHeartbeats 4000000 in
set_option maxRecDepth 100000 in
theorem read_fail (r db N cap : Nat) (D : List Int) (pos chunk failAt calls : Nat) (ev : Value) (a : Option Addr) (L C : Nat) (w : World) (h : Rd r db N cap D pos chunk failAt calls ev w) (hne : db ≠ r) (hk : 0 < failAt) (hm : calls + 1 = failAt) (hk4 : failAt ≤ 4) :
    Calls Ybaf.prog 33 #[.pointer (some ⟨r, 0, none⟩), .slice a L C] w (RFail r db N cap D pos chunk failAt calls ev w) := by
  subst hm
  have c3 := h.c3
  have c4 := h.c4
  have c5 := h.c5
  have f4 := h.fz 4
  have H : Hid (Rd r db N cap D pos chunk (calls + 1) calls ev w) := h
  clear h
  go_enter Ybaf.func33, Ybaf.ntmps33
  go_wp2_with fail
  go_quiet (fail)
  go_wp2_with fail
  go_quiet (fail)
  go_wp2_with fail
  go_ret2
  exact ⟨rfl, ((H.out.called hne (y := (calls : Int) + 1) (by omega)).drewN _).drewN _, ((Frm.setCell w r 4 _ _ ⟨rfl, rfl⟩).trans (Frm.drewN _ _ _)).trans (Frm.drewN _ _ _)⟩

/-- Read where it gives n bytes -/
def ROk (r db N cap : Nat) (D : List Int) (pos chunk failAt calls : Nat) (ev : Value) (pb po n : Nat) (w : World) (e : Ending) (w' : World) : Prop :=
  e = .returned (.tuple #[.int .i64 n, .nilIface]) ∧ Rd r db N cap D (pos + n) chunk failAt (calls + 1) ev w' ∧ (∀ j, j < n → w'.cell? ⟨pb, po + j, none⟩ = some (.int .u8 (D.getD (pos + j) 0))) ∧ Frm w w' (fun k o => k = r ∧ o ≤ 5 ∨ k = pb ∧ po ≤ o ∧ o < po + n)

/-- the bytes that a copy reads -/
def bytesAt (D : List Int) (pos n : Nat) : List Value := (List.range n).map fun j => .int .u8 (D.getD (pos + j) 0)
theorem bytesAt_len (D : List Int) (pos n : Nat) : (bytesAt D pos n).length = n := by simp [bytesAt]
theorem bytesAt_one (D : List Int) (pos n : Nat) : ∀ v ∈ bytesAt D pos n, v.oneCell' = true := by
  intro v hv
  obtain ⟨j, _, rfl⟩ := List.mem_map.1 hv
  rfl
theorem bytesAt_get (D : List Int) (pos n j : Nat) (hj : j < n) : (bytesAt D pos n)[j]'(by rw [bytesAt_len]; exact hj) = .int .u8 (D.getD (pos + j) 0) := by simp [bytesAt]

theorem copy_run {r db N cap : Nat} {D : List Int} {pos chunk failAt calls : Nat} {ev : Value} {w : World} (h : Rd r db N cap D pos chunk failAt calls ev w) (pb po n c1 c2 ty : Nat) (hn : pos + n ≤ N) (hc : ∀ j, j < n → (w.cell? ⟨pb, po + j, none⟩).isSome = true) (hf : ∀ j, j < n → w.frozen? ⟨pb, po + j, none⟩ = false) :
    (Builtin.copy_ #[22, 22] ty #[.slice (some ⟨pb, po, none⟩) n c1, .slice (some ⟨db, pos, none⟩) n c2]).run Ybaf.prog w = .ok (goInt n) (w.setCells pb po (bytesAt D pos n)) := by
  obtain ⟨i0, hi0, hz0, hz1, hz2⟩ := info_parts Ybaf.info5
  have := run_copy_cells (P := Ybaf.prog) w 22 22 ty 5 pb po n c1 ⟨db, pos, none⟩ n c2 (bytesAt D pos n) Ybaf.underlying22 (by rw [hi0]; exact congrArg some hz1) (by rw [bytesAt_len]; exact (Nat.min_self n).symm) (fun j v hj => by
    have hjn : j < n := by have := (List.getElem?_eq_some_iff.1 hj).1; rwa [bytesAt_len] at this
    rw [List.getElem?_eq_getElem (by rw [bytesAt_len]; exact hjn), bytesAt_get D pos n j hjn] at hj
    rw [Addr.add_lit, h.dat (pos + j) (by omega)]
    exact hj) (fun j hj => hc j (by rwa [bytesAt_len] at hj)) (fun j hj => hf j (by rwa [bytesAt_len] at hj)) (bytesAt_one D pos n)
  rw [bytesAt_len] at this
  exact this

theorem drewN_sum (w : World) (a b : Nat) : (w.drewN a).drewN b = w.drewN (a + b) := by simp [World.drewN, Nat.add_assoc]

/-- Read's end -/
theorem ROk.fin {r db N cap : Nat} {D : List Int} {pos chunk failAt calls : Nat} {ev : Value} {pb po n : Nat} {w : World} (h : Rd r db N cap D pos chunk failAt calls ev w) (hne : db ≠ r) (h1 : pb ≠ r) (h2 : pb ≠ db) (hc : ∀ j, j < n → (w.cell? ⟨pb, po + j, none⟩).isSome = true) {y z : Int} (hy : y = ((calls + 1 : Nat) : Int)) (hz : z = ((pos + n : Nat) : Int)) (q : Nat) :
    ROk r db N cap D pos chunk failAt calls ev pb po n w (.returned (.tuple #[.int .i64 n, .nilIface])) (((((w.setCell ⟨r, 4, none⟩ (.int .i64 y)).drewN q)).setCells pb po (bytesAt D pos n)).setCell ⟨r, 1, none⟩ (.int .i64 z)) := by
  have k1 := ((h.called hne hy).drewN q).cells pb po (bytesAt D pos n) h1 h2
  refine ⟨rfl, k1.moved hne hz, ?_, ?_⟩
  · intro j hj
    rw [World.cell?_setCell_other _ _ _ _ (fun e => by simp only [Addr.mk.injEq, and_true] at e; exact h1 e.1.symm)]
    rw [World.cell?_setCells_in pb _ _ _ (fun i hi => ?_) j (by rw [bytesAt_len]; exact hj), bytesAt_get D pos n j hj]
    rw [bytesAt_len] at hi
    have : ((w.setCell ⟨r, 4, none⟩ (.int .i64 y)).drewN q).cell? ⟨pb, po + i, none⟩ = w.cell? ⟨pb, po + i, none⟩ := World.cell?_setCell_other _ _ _ _ (fun e => by simp only [Addr.mk.injEq, and_true] at e; exact h1 e.1.symm)
    rw [this]
    exact hc i hi
  · refine (((Frm.setCell w r 4 _ _ (Or.inl ⟨rfl, by omega⟩)).trans (Frm.drewN _ q _)).trans (frm_setCells pb _ _ _ (fun j hj => Or.inr ⟨rfl, by omega, by rw [bytesAt_len] at hj; omega⟩))).trans (Frm.setCell _ r 1 _ _ (Or.inl ⟨rfl, by omega⟩))

theorem Rd.copied {r db N cap : Nat} {D : List Int} {pos chunk failAt calls : Nat} {ev : Value} {w : World} (h : Rd r db N cap D pos chunk failAt calls ev w) (hne : db ≠ r) {pb : Nat} (h1 : pb ≠ r) (_ po n c1 c2 ty q : Nat) (hn : pos + n ≤ N) (hb : ∀ j, j < n → (w.cell? ⟨pb, po + j, none⟩).isSome = true) (hf : ∀ j, w.frozen? ⟨pb, j, none⟩ = false) :
    (Builtin.copy_ #[22, 22] ty #[.slice (some ⟨pb, po, none⟩) n c1, .slice (some ⟨db, pos, none⟩) n c2]).run Ybaf.prog ((w.setCell ⟨r, 4, none⟩ (.int .i64 ((calls : Int) + 1))).drewN q) = .ok (goInt n) (((w.setCell ⟨r, 4, none⟩ (.int .i64 ((calls : Int) + 1))).drewN q).setCells pb po (bytesAt D pos n)) := by
  refine copy_run ((h.called hne (by omega)).drewN q) pb po n c1 c2 ty hn (fun j hj => ?_) (fun j hj => ?_)
  · have : ((w.setCell ⟨r, 4, none⟩ (.int .i64 ((calls : Int) + 1))).drewN q).cell? ⟨pb, po + j, none⟩ = w.cell? ⟨pb, po + j, none⟩ := World.cell?_setCell_other _ _ _ _ (fun e => by simp only [Addr.mk.injEq, and_true] at e; exact h1 e.1.symm)
    rw [this]
    exact hb j hj
  · exact (World.frozen?_setCell _ _ _ _).trans (hf _)

set_option maxHeartbeats 4000000 in
set_option maxRecDepth 100000 in
theorem read_ok (r db N cap : Nat) (D : List Int) (pos chunk failAt calls : Nat) (ev : Value) (pb po L C n : Nat) (w : World) (h : Rd r db N cap D pos chunk failAt calls ev w) (hne : db ≠ r) (hnf : failAt = 0 ∨ (0 < failAt ∧ calls + 1 ≠ failAt)) (hcl : calls ≤ 1000) (hfa : failAt ≤ 1000)
    (hpos : pos < N) (hN : N ≤ 2000) (hcap : N ≤ cap) (hch : chunk ≤ 2000) (hL : L ≤ C) (hC : C ≤ 70000) (hn : n = min (min (N - pos) chunk) L) (hb : ∀ j, j < L → (w.cell? ⟨pb, po + j, none⟩).isSome = true) (hf : ∀ j, w.frozen? ⟨pb, j, none⟩ = false) (h1 : pb ≠ r) (h2 : pb ≠ db) :
    Calls Ybaf.prog 33 #[.pointer (some ⟨r, 0, none⟩), .slice (some ⟨pb, po, none⟩) L C] w (ROk r db N cap D pos chunk failAt calls ev pb po n w) := by
  have c0 := h.c0
  have c1 := h.c1
  have c2 := h.c2
  have c3 := h.c3
  have c4 := h.c4
  have f4 := h.fz 4
  have f1 := h.fz 1
  have hcp : ¬ cap = pos := by omega
  obtain ⟨M, hM⟩ : ∃ M : Nat, N = pos + M := ⟨N - pos, by omega⟩
  have hMi : (N : Int) - (pos : Int) = (M : Int) := by omega
  have hnp : decide ((N : Int) ≤ (pos : Int)) = false := decide_eq_false (by omega)
  have HN : Hid (n = min (min (N - pos) chunk) L) := hn
  have H : Hid (Rd r db N cap D pos chunk failAt calls ev w) := h
  have HM : Hid (N = pos + M) := hM
  have HB : Hid (∀ j, j < L → (w.cell? ⟨pb, po + j, none⟩).isSome = true) := hb
  have HF : Hid (∀ j, w.frozen? ⟨pb, j, none⟩ = false) := hf
  clear h hn hM hb hf
  rcases hnf with rfl | ⟨hf1, hf2⟩
  · by_cases hA : chunk < M
    · by_cases hB : L < chunk
      · obtain rfl : n = L := by have h3 := HN.out; have h4 := HM.out; omega
        have hcr : Hid (∀ q c1 c2 ty, (Builtin.copy_ #[22, 22] ty #[.slice (some ⟨pb, po, none⟩) n c1, .slice (some ⟨db, pos, none⟩) n c2]).run Ybaf.prog ((w.setCell ⟨r, 4, none⟩ (.int .i64 ((calls : Int) + 1))).drewN q) = .ok (goInt n) (((w.setCell ⟨r, 4, none⟩ (.int .i64 ((calls : Int) + 1))).drewN q).setCells pb po (bytesAt D pos n))) := fun q c1 c2 ty => H.out.copied hne h1 pb po n c1 c2 ty q (by have := HM.out; omega) (fun j hj => HB.out j (by omega)) HF.out
        have hk1 : ∀ q, (((w.setCell ⟨r, 4, none⟩ (.int .i64 ((calls : Int) + 1))).drewN q).setCells pb po (bytesAt D pos n)).cell? ⟨r, 1, none⟩ = some (.int .i64 pos) := fun q => ((((H.out.called hne (by omega)).drewN q).cells pb po (bytesAt D pos n) h1 h2).c1)
        have hk2 : ∀ q, (((w.setCell ⟨r, 4, none⟩ (.int .i64 ((calls : Int) + 1))).drewN q).setCells pb po (bytesAt D pos n)).frozen? ⟨r, 1, none⟩ = false := fun q => ((((H.out.called hne (by omega)).drewN q).cells pb po (bytesAt D pos n) h1 h2).fz 1)
        obtain ⟨e, he⟩ : ∃ e, pos + n = e := ⟨_, rfl⟩
        have hwr : IntKind.i64.wrap ((pos : Int) + (n : Int)) = (e : Int) := by rw [IntKind.wrap_i64]; omega
        have he1 : pos ≤ e := by omega
        have he2 : e ≤ cap := by have := HM.out; omega
        have he3 : e - pos = n := by omega
        have hnC : n ≤ C := by omega
        have HE : Hid ((e : Int) = ((pos + n : Nat) : Int)) := by rw [he]; exact (rfl : (e : Int) = e)
        clear he
        go_enter Ybaf.func33, Ybaf.ntmps33
        go_wp2_with fail
        go_quiet (fail)
        go_wp2_with fail
        go_quiet (fail)
        go_wp2_with fail
        go_quiet (fail)
        go_wp2_with fail
        go_region_law (refine step_copy_run rfl (.tmp 73) (.tmp 88) 22 22 rfl _ _ rfl rfl (hcr.out _ _ _ _) ?_)
        all_goals go_wp2_with fail
        all_goals go_ret2
        all_goals exact ROk.fin H.out hne h1 h2 (fun j hj => HB.out j (by omega)) (by omega) HE.out _
      · obtain rfl : n = chunk := by have h3 := HN.out; have h4 := HM.out; omega
        have hcr : Hid (∀ q c1 c2 ty, (Builtin.copy_ #[22, 22] ty #[.slice (some ⟨pb, po, none⟩) n c1, .slice (some ⟨db, pos, none⟩) n c2]).run Ybaf.prog ((w.setCell ⟨r, 4, none⟩ (.int .i64 ((calls : Int) + 1))).drewN q) = .ok (goInt n) (((w.setCell ⟨r, 4, none⟩ (.int .i64 ((calls : Int) + 1))).drewN q).setCells pb po (bytesAt D pos n))) := fun q c1 c2 ty => H.out.copied hne h1 pb po n c1 c2 ty q (by have := HM.out; omega) (fun j hj => HB.out j (by omega)) HF.out
        have hk1 : ∀ q, (((w.setCell ⟨r, 4, none⟩ (.int .i64 ((calls : Int) + 1))).drewN q).setCells pb po (bytesAt D pos n)).cell? ⟨r, 1, none⟩ = some (.int .i64 pos) := fun q => ((((H.out.called hne (by omega)).drewN q).cells pb po (bytesAt D pos n) h1 h2).c1)
        have hk2 : ∀ q, (((w.setCell ⟨r, 4, none⟩ (.int .i64 ((calls : Int) + 1))).drewN q).setCells pb po (bytesAt D pos n)).frozen? ⟨r, 1, none⟩ = false := fun q => ((((H.out.called hne (by omega)).drewN q).cells pb po (bytesAt D pos n) h1 h2).fz 1)
        obtain ⟨e, he⟩ : ∃ e, pos + n = e := ⟨_, rfl⟩
        have hwr : IntKind.i64.wrap ((pos : Int) + (n : Int)) = (e : Int) := by rw [IntKind.wrap_i64]; omega
        have he1 : pos ≤ e := by omega
        have he2 : e ≤ cap := by have := HM.out; omega
        have he3 : e - pos = n := by omega
        have hnC : n ≤ C := by omega
        have HE : Hid ((e : Int) = ((pos + n : Nat) : Int)) := by rw [he]; exact (rfl : (e : Int) = e)
        clear he
        go_enter Ybaf.func33, Ybaf.ntmps33
        go_wp2_with fail
        go_quiet (fail)
        go_wp2_with fail
        go_quiet (fail)
        go_wp2_with fail
        go_quiet (fail)
        go_wp2_with fail
        go_region_law (refine step_copy_run rfl (.tmp 73) (.tmp 88) 22 22 rfl _ _ rfl rfl (hcr.out _ _ _ _) ?_)
        all_goals go_wp2_with fail
        all_goals go_ret2
        all_goals exact ROk.fin H.out hne h1 h2 (fun j hj => HB.out j (by omega)) (by omega) HE.out _
    · by_cases hB : L < M
      · obtain rfl : n = L := by have h3 := HN.out; have h4 := HM.out; omega
        have hcr : Hid (∀ q c1 c2 ty, (Builtin.copy_ #[22, 22] ty #[.slice (some ⟨pb, po, none⟩) n c1, .slice (some ⟨db, pos, none⟩) n c2]).run Ybaf.prog ((w.setCell ⟨r, 4, none⟩ (.int .i64 ((calls : Int) + 1))).drewN q) = .ok (goInt n) (((w.setCell ⟨r, 4, none⟩ (.int .i64 ((calls : Int) + 1))).drewN q).setCells pb po (bytesAt D pos n))) := fun q c1 c2 ty => H.out.copied hne h1 pb po n c1 c2 ty q (by have := HM.out; omega) (fun j hj => HB.out j (by omega)) HF.out
        have hk1 : ∀ q, (((w.setCell ⟨r, 4, none⟩ (.int .i64 ((calls : Int) + 1))).drewN q).setCells pb po (bytesAt D pos n)).cell? ⟨r, 1, none⟩ = some (.int .i64 pos) := fun q => ((((H.out.called hne (by omega)).drewN q).cells pb po (bytesAt D pos n) h1 h2).c1)
        have hk2 : ∀ q, (((w.setCell ⟨r, 4, none⟩ (.int .i64 ((calls : Int) + 1))).drewN q).setCells pb po (bytesAt D pos n)).frozen? ⟨r, 1, none⟩ = false := fun q => ((((H.out.called hne (by omega)).drewN q).cells pb po (bytesAt D pos n) h1 h2).fz 1)
        obtain ⟨e, he⟩ : ∃ e, pos + n = e := ⟨_, rfl⟩
        have hwr : IntKind.i64.wrap ((pos : Int) + (n : Int)) = (e : Int) := by rw [IntKind.wrap_i64]; omega
        have he1 : pos ≤ e := by omega
        have he2 : e ≤ cap := by have := HM.out; omega
        have he3 : e - pos = n := by omega
        have hnC : n ≤ C := by omega
        have HE : Hid ((e : Int) = ((pos + n : Nat) : Int)) := by rw [he]; exact (rfl : (e : Int) = e)
        clear he
        go_enter Ybaf.func33, Ybaf.ntmps33
        go_wp2_with fail
        go_quiet (fail)
        go_wp2_with fail
        go_quiet (fail)
        go_wp2_with fail
        go_quiet (fail)
        go_wp2_with fail
        go_region_law (refine step_copy_run rfl (.tmp 73) (.tmp 88) 22 22 rfl _ _ rfl rfl (hcr.out _ _ _ _) ?_)
        all_goals go_wp2_with fail
        all_goals go_ret2
        all_goals exact ROk.fin H.out hne h1 h2 (fun j hj => HB.out j (by omega)) (by omega) HE.out _
      · obtain rfl : n = M := by have h3 := HN.out; have h4 := HM.out; omega
        have hcr : Hid (∀ q c1 c2 ty, (Builtin.copy_ #[22, 22] ty #[.slice (some ⟨pb, po, none⟩) n c1, .slice (some ⟨db, pos, none⟩) n c2]).run Ybaf.prog ((w.setCell ⟨r, 4, none⟩ (.int .i64 ((calls : Int) + 1))).drewN q) = .ok (goInt n) (((w.setCell ⟨r, 4, none⟩ (.int .i64 ((calls : Int) + 1))).drewN q).setCells pb po (bytesAt D pos n))) := fun q c1 c2 ty => H.out.copied hne h1 pb po n c1 c2 ty q (by have := HM.out; omega) (fun j hj => HB.out j (by omega)) HF.out
        have hk1 : ∀ q, (((w.setCell ⟨r, 4, none⟩ (.int .i64 ((calls : Int) + 1))).drewN q).setCells pb po (bytesAt D pos n)).cell? ⟨r, 1, none⟩ = some (.int .i64 pos) := fun q => ((((H.out.called hne (by omega)).drewN q).cells pb po (bytesAt D pos n) h1 h2).c1)
        have hk2 : ∀ q, (((w.setCell ⟨r, 4, none⟩ (.int .i64 ((calls : Int) + 1))).drewN q).setCells pb po (bytesAt D pos n)).frozen? ⟨r, 1, none⟩ = false := fun q => ((((H.out.called hne (by omega)).drewN q).cells pb po (bytesAt D pos n) h1 h2).fz 1)
        obtain ⟨e, he⟩ : ∃ e, pos + n = e := ⟨_, rfl⟩
        have hwr : IntKind.i64.wrap ((pos : Int) + (n : Int)) = (e : Int) := by rw [IntKind.wrap_i64]; omega
        have he1 : pos ≤ e := by omega
        have he2 : e ≤ cap := by have := HM.out; omega
        have he3 : e - pos = n := by omega
        have hnC : n ≤ C := by omega
        have HE : Hid ((e : Int) = ((pos + n : Nat) : Int)) := by rw [he]; exact (rfl : (e : Int) = e)
        clear he
        go_enter Ybaf.func33, Ybaf.ntmps33
        go_wp2_with fail
        go_quiet (fail)
        go_wp2_with fail
        go_quiet (fail)
        go_wp2_with fail
        go_quiet (fail)
        go_wp2_with fail
        go_region_law (refine step_copy_run rfl (.tmp 73) (.tmp 88) 22 22 rfl _ _ rfl rfl (hcr.out _ _ _ _) ?_)
        all_goals go_wp2_with fail
        all_goals go_ret2
        all_goals exact ROk.fin H.out hne h1 h2 (fun j hj => HB.out j (by omega)) (by omega) HE.out _
  · have hfd : (((calls : Int) + 1) == (failAt : Int)) = false := beq_eq_false_iff_ne.2 (by omega)
    by_cases hA : chunk < M
    · by_cases hB : L < chunk
      · obtain rfl : n = L := by have h3 := HN.out; have h4 := HM.out; omega
        have hcr : Hid (∀ q c1 c2 ty, (Builtin.copy_ #[22, 22] ty #[.slice (some ⟨pb, po, none⟩) n c1, .slice (some ⟨db, pos, none⟩) n c2]).run Ybaf.prog ((w.setCell ⟨r, 4, none⟩ (.int .i64 ((calls : Int) + 1))).drewN q) = .ok (goInt n) (((w.setCell ⟨r, 4, none⟩ (.int .i64 ((calls : Int) + 1))).drewN q).setCells pb po (bytesAt D pos n))) := fun q c1 c2 ty => H.out.copied hne h1 pb po n c1 c2 ty q (by have := HM.out; omega) (fun j hj => HB.out j (by omega)) HF.out
        have hk1 : ∀ q, (((w.setCell ⟨r, 4, none⟩ (.int .i64 ((calls : Int) + 1))).drewN q).setCells pb po (bytesAt D pos n)).cell? ⟨r, 1, none⟩ = some (.int .i64 pos) := fun q => ((((H.out.called hne (by omega)).drewN q).cells pb po (bytesAt D pos n) h1 h2).c1)
        have hk2 : ∀ q, (((w.setCell ⟨r, 4, none⟩ (.int .i64 ((calls : Int) + 1))).drewN q).setCells pb po (bytesAt D pos n)).frozen? ⟨r, 1, none⟩ = false := fun q => ((((H.out.called hne (by omega)).drewN q).cells pb po (bytesAt D pos n) h1 h2).fz 1)
        obtain ⟨e, he⟩ : ∃ e, pos + n = e := ⟨_, rfl⟩
        have hwr : IntKind.i64.wrap ((pos : Int) + (n : Int)) = (e : Int) := by rw [IntKind.wrap_i64]; omega
        have he1 : pos ≤ e := by omega
        have he2 : e ≤ cap := by have := HM.out; omega
        have he3 : e - pos = n := by omega
        have hnC : n ≤ C := by omega
        have HE : Hid ((e : Int) = ((pos + n : Nat) : Int)) := by rw [he]; exact (rfl : (e : Int) = e)
        clear he
        go_enter Ybaf.func33, Ybaf.ntmps33
        go_wp2_with fail
        go_quiet (fail)
        go_wp2_with fail
        go_quiet (fail)
        go_wp2_with fail
        go_quiet (fail)
        go_wp2_with fail
        go_region_law (refine step_copy_run rfl (.tmp 73) (.tmp 88) 22 22 rfl _ _ rfl rfl (hcr.out _ _ _ _) ?_)
        all_goals go_wp2_with fail
        all_goals go_ret2
        all_goals exact ROk.fin H.out hne h1 h2 (fun j hj => HB.out j (by omega)) (by omega) HE.out _
      · obtain rfl : n = chunk := by have h3 := HN.out; have h4 := HM.out; omega
        have hcr : Hid (∀ q c1 c2 ty, (Builtin.copy_ #[22, 22] ty #[.slice (some ⟨pb, po, none⟩) n c1, .slice (some ⟨db, pos, none⟩) n c2]).run Ybaf.prog ((w.setCell ⟨r, 4, none⟩ (.int .i64 ((calls : Int) + 1))).drewN q) = .ok (goInt n) (((w.setCell ⟨r, 4, none⟩ (.int .i64 ((calls : Int) + 1))).drewN q).setCells pb po (bytesAt D pos n))) := fun q c1 c2 ty => H.out.copied hne h1 pb po n c1 c2 ty q (by have := HM.out; omega) (fun j hj => HB.out j (by omega)) HF.out
        have hk1 : ∀ q, (((w.setCell ⟨r, 4, none⟩ (.int .i64 ((calls : Int) + 1))).drewN q).setCells pb po (bytesAt D pos n)).cell? ⟨r, 1, none⟩ = some (.int .i64 pos) := fun q => ((((H.out.called hne (by omega)).drewN q).cells pb po (bytesAt D pos n) h1 h2).c1)
        have hk2 : ∀ q, (((w.setCell ⟨r, 4, none⟩ (.int .i64 ((calls : Int) + 1))).drewN q).setCells pb po (bytesAt D pos n)).frozen? ⟨r, 1, none⟩ = false := fun q => ((((H.out.called hne (by omega)).drewN q).cells pb po (bytesAt D pos n) h1 h2).fz 1)
        obtain ⟨e, he⟩ : ∃ e, pos + n = e := ⟨_, rfl⟩
        have hwr : IntKind.i64.wrap ((pos : Int) + (n : Int)) = (e : Int) := by rw [IntKind.wrap_i64]; omega
        have he1 : pos ≤ e := by omega
        have he2 : e ≤ cap := by have := HM.out; omega
        have he3 : e - pos = n := by omega
        have hnC : n ≤ C := by omega
        have HE : Hid ((e : Int) = ((pos + n : Nat) : Int)) := by rw [he]; exact (rfl : (e : Int) = e)
        clear he
        go_enter Ybaf.func33, Ybaf.ntmps33
        go_wp2_with fail
        go_quiet (fail)
        go_wp2_with fail
        go_quiet (fail)
        go_wp2_with fail
        go_quiet (fail)
        go_wp2_with fail
        go_region_law (refine step_copy_run rfl (.tmp 73) (.tmp 88) 22 22 rfl _ _ rfl rfl (hcr.out _ _ _ _) ?_)
        all_goals go_wp2_with fail
        all_goals go_ret2
        all_goals exact ROk.fin H.out hne h1 h2 (fun j hj => HB.out j (by omega)) (by omega) HE.out _
    · by_cases hB : L < M
      · obtain rfl : n = L := by have h3 := HN.out; have h4 := HM.out; omega
        have hcr : Hid (∀ q c1 c2 ty, (Builtin.copy_ #[22, 22] ty #[.slice (some ⟨pb, po, none⟩) n c1, .slice (some ⟨db, pos, none⟩) n c2]).run Ybaf.prog ((w.setCell ⟨r, 4, none⟩ (.int .i64 ((calls : Int) + 1))).drewN q) = .ok (goInt n) (((w.setCell ⟨r, 4, none⟩ (.int .i64 ((calls : Int) + 1))).drewN q).setCells pb po (bytesAt D pos n))) := fun q c1 c2 ty => H.out.copied hne h1 pb po n c1 c2 ty q (by have := HM.out; omega) (fun j hj => HB.out j (by omega)) HF.out
        have hk1 : ∀ q, (((w.setCell ⟨r, 4, none⟩ (.int .i64 ((calls : Int) + 1))).drewN q).setCells pb po (bytesAt D pos n)).cell? ⟨r, 1, none⟩ = some (.int .i64 pos) := fun q => ((((H.out.called hne (by omega)).drewN q).cells pb po (bytesAt D pos n) h1 h2).c1)
        have hk2 : ∀ q, (((w.setCell ⟨r, 4, none⟩ (.int .i64 ((calls : Int) + 1))).drewN q).setCells pb po (bytesAt D pos n)).frozen? ⟨r, 1, none⟩ = false := fun q => ((((H.out.called hne (by omega)).drewN q).cells pb po (bytesAt D pos n) h1 h2).fz 1)
        obtain ⟨e, he⟩ : ∃ e, pos + n = e := ⟨_, rfl⟩
        have hwr : IntKind.i64.wrap ((pos : Int) + (n : Int)) = (e : Int) := by rw [IntKind.wrap_i64]; omega
        have he1 : pos ≤ e := by omega
        have he2 : e ≤ cap := by have := HM.out; omega
        have he3 : e - pos = n := by omega
        have hnC : n ≤ C := by omega
        have HE : Hid ((e : Int) = ((pos + n : Nat) : Int)) := by rw [he]; exact (rfl : (e : Int) = e)
        clear he
        go_enter Ybaf.func33, Ybaf.ntmps33
        go_wp2_with fail
        go_quiet (fail)
        go_wp2_with fail
        go_quiet (fail)
        go_wp2_with fail
        go_quiet (fail)
        go_wp2_with fail
        go_region_law (refine step_copy_run rfl (.tmp 73) (.tmp 88) 22 22 rfl _ _ rfl rfl (hcr.out _ _ _ _) ?_)
        all_goals go_wp2_with fail
        all_goals go_ret2
        all_goals exact ROk.fin H.out hne h1 h2 (fun j hj => HB.out j (by omega)) (by omega) HE.out _
      · obtain rfl : n = M := by have h3 := HN.out; have h4 := HM.out; omega
        have hcr : Hid (∀ q c1 c2 ty, (Builtin.copy_ #[22, 22] ty #[.slice (some ⟨pb, po, none⟩) n c1, .slice (some ⟨db, pos, none⟩) n c2]).run Ybaf.prog ((w.setCell ⟨r, 4, none⟩ (.int .i64 ((calls : Int) + 1))).drewN q) = .ok (goInt n) (((w.setCell ⟨r, 4, none⟩ (.int .i64 ((calls : Int) + 1))).drewN q).setCells pb po (bytesAt D pos n))) := fun q c1 c2 ty => H.out.copied hne h1 pb po n c1 c2 ty q (by have := HM.out; omega) (fun j hj => HB.out j (by omega)) HF.out
        have hk1 : ∀ q, (((w.setCell ⟨r, 4, none⟩ (.int .i64 ((calls : Int) + 1))).drewN q).setCells pb po (bytesAt D pos n)).cell? ⟨r, 1, none⟩ = some (.int .i64 pos) := fun q => ((((H.out.called hne (by omega)).drewN q).cells pb po (bytesAt D pos n) h1 h2).c1)
        have hk2 : ∀ q, (((w.setCell ⟨r, 4, none⟩ (.int .i64 ((calls : Int) + 1))).drewN q).setCells pb po (bytesAt D pos n)).frozen? ⟨r, 1, none⟩ = false := fun q => ((((H.out.called hne (by omega)).drewN q).cells pb po (bytesAt D pos n) h1 h2).fz 1)
        obtain ⟨e, he⟩ : ∃ e, pos + n = e := ⟨_, rfl⟩
        have hwr : IntKind.i64.wrap ((pos : Int) + (n : Int)) = (e : Int) := by rw [IntKind.wrap_i64]; omega
        have he1 : pos ≤ e := by omega
        have he2 : e ≤ cap := by have := HM.out; omega
        have he3 : e - pos = n := by omega
        have hnC : n ≤ C := by omega
        have HE : Hid ((e : Int) = ((pos + n : Nat) : Int)) := by rw [he]; exact (rfl : (e : Int) = e)
        clear he
        go_enter Ybaf.func33, Ybaf.ntmps33
        go_wp2_with fail
        go_quiet (fail)
        go_wp2_with fail
        go_quiet (fail)
        go_wp2_with fail
        go_quiet (fail)
        go_wp2_with fail
        go_region_law (refine step_copy_run rfl (.tmp 73) (.tmp 88) 22 22 rfl _ _ rfl rfl (hcr.out _ _ _ _) ?_)
        all_goals go_wp2_with fail
        all_goals go_ret2
        all_goals exact ROk.fin H.out hne h1 h2 (fun j hj => HB.out j (by omega)) (by omega) HE.out _
end Go.Proofs.YbulkaewgFmt
