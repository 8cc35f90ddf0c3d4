/-
  The heap in memory ('HeapSt'), and the contract of (*heap[int]).set. By the prover of seat b1537a.
-/
import Derived.Test.YbulkaeuqBase
import Derived.Test.YbulkaeuqHeapL
namespace Go.Proofs.Ybulkaeuq
open Go.RowKit

set_option maxHeartbeats 400000 in
set_option maxRecDepth 100000 in
theorem set_raw (B ho g n cap i p : Nat) (wh : Int) (u0 u1 u2 : Value) (w : World) (hi : i < n) (hn : n < 100000000)
    (hB : B < w.heap.size) (hg : g < w.heap.size) (hp : p < w.heap.size)
    (h0 : w.cell? ⟨B, ho, none⟩ = some (.slice (some ⟨g, 0, none⟩) n cap))
    (c0 : w.cell? ⟨g, i * 2, none⟩ = some u0) (c1 : w.cell? ⟨g, i * 2 + 1, none⟩ = some u1) (c2 : w.cell? ⟨p, 2, none⟩ = some u2)
    (f0 : w.frozen? ⟨g, i * 2, none⟩ = false) (f1 : w.frozen? ⟨g, i * 2 + 1, none⟩ = false) (f2 : w.frozen? ⟨p, 2, none⟩ = false)
    (hgp : g ≠ p) :
    Calls Yba.prog 22 #[.pointer (some ⟨B, ho, none⟩), .int .i64 i, .agg #[.int .i64 wh, .pointer (some ⟨p, 0, none⟩)]] w fun e w' =>
      e = .returned (.tuple #[]) ∧ ∃ nq, w' = ((((w.setCell ⟨g, i * 2, none⟩ (.int .i64 wh)).setCell ⟨g, i * 2 + 1, none⟩ (.pointer (some ⟨p, 0, none⟩))).setCell ⟨p, 2, none⟩ (.int .i64 (i * 1024 + 1))).alloc (.cells #[.int .i64 wh, .pointer (some ⟨p, 0, none⟩)] 32)).drewN nq := by
  go_enter Yba.func22, Yba.ntmps22
  go_wp2
  go_region
  go_wp2
  go_region_with (go_at_call 17; refine (at_calls _ _ _ (by omega) (by omega) (by omega) (by omega)).mono ?_; rintro e w' ⟨rfl, rfl⟩)
  all_goals
    go_end0
    exact ⟨rfl, 2, rfl⟩

/-- THE HEAP h AT ⟨B, ho⟩ HOLDS THE ENTRIES es, in a row of the call's own (block g, from 'base' on); B's block is neither a row of entries nor a node. -/
structure HeapSt (w : World) (base B ho g cap : Nat) (es : List (Int × Nat)) : Prop where
  hdr : w.cell? ⟨B, ho, none⟩ = some (.slice (some ⟨g, 0, none⟩) es.length cap)
  own : w.ownsRow base 32 2 (.slice (some ⟨g, 0, none⟩) es.length cap) es.length (cellsOf es)
  shB : ∃ t m, w.shape? B = some (t, m) ∧ t ≠ 32 ∧ t ≠ 30

/-- p is a node: its block's kind and length; its deadline; the cell of its position may be written -/
structure Nd (w : World) (p : Nat) (wh : Int) : Prop where
  shp : w.shape? p = some (30, 3)
  when : w.cell? ⟨p, 0, none⟩ = some (.int .i64 wh)
  frz : w.frozen? ⟨p, 2, none⟩ = false

theorem lt_of_shape {w : World} {k : Nat} {x : TypeId × Nat} (h : w.shape? k = some x) : k < w.heap.size := by
  unfold World.shape? at h
  cases hh : w.heap[k]? with
  | none => rw [hh] at h; simp at h
  | some o => exact (Array.getElem?_eq_some_iff.1 hh).1

theorem cell_of_shape {w : World} {k : Nat} {t n : Nat} (h : w.shape? k = some (t, n)) (o : Nat) (ho : o < n) : ∃ v, w.cell? ⟨k, o, none⟩ = some v := by
  unfold World.shape? at h
  unfold World.cell?
  cases hh : w.heap[k]? with
  | none => rw [hh] at h; simp at h
  | some ob =>
    rw [hh] at h
    cases ob with
    | cells c e f =>
      simp at h
      obtain ⟨rfl, rfl⟩ := h
      exact ⟨c[o], by simp [ho]⟩
    | _ => simp at h

theorem ownsRow_shape {w : World} {base e size g n cap : Nat} {xs : List Value} (h : w.ownsRow base e size (.slice (some ⟨g, 0, none⟩) n cap) n xs) : w.shape? g = some (e, cap * size) := by
  rcases h.2 with ⟨h', _⟩ | ⟨g', cap', cur, h', _, hg, _, _, hs, _⟩
  · simp at h'
  · simp only [Value.slice.injEq, Option.some.injEq, Addr.mk.injEq, and_true, true_and] at h'
    obtain ⟨rfl, rfl⟩ := h'
    simp [World.shape?, hg, hs]

theorem ownsRow_ge {w : World} {base e size g n cap : Nat} {xs : List Value} (h : w.ownsRow base e size (.slice (some ⟨g, 0, none⟩) n cap) n xs) : base ≤ g := (h.lt g rfl).1
theorem ownsRow_lt {w : World} {base e size g n cap : Nat} {xs : List Value} (h : w.ownsRow base e size (.slice (some ⟨g, 0, none⟩) n cap) n xs) : g < w.heap.size := (h.lt g rfl).2

/-- a row stays owned where its block stands -/
theorem ownsRow_block {w w' : World} {base e size g n cap : Nat} {xs : List Value} (h : w.ownsRow base e size (.slice (some ⟨g, 0, none⟩) n cap) n xs) (hb : w'.heap[g]? = w.heap[g]?) :
    w'.ownsRow base e size (.slice (some ⟨g, 0, none⟩) n cap) n xs := by
  refine ⟨h.1, ?_⟩
  rcases h.2 with ⟨h', _⟩ | ⟨g', cap', cur, h', hbs, hg, r⟩
  · simp at h'
  · simp only [Value.slice.injEq, Option.some.injEq, Addr.mk.injEq, and_true, true_and] at h'
    obtain ⟨rfl, rfl⟩ := h'
    exact .inr ⟨g, cap, cur, rfl, hbs, hb.trans hg, r⟩

theorem HeapSt.gB {w : World} {base B ho g cap : Nat} {es : List (Int × Nat)} (h : HeapSt w base B ho g cap es) : g ≠ B := by
  intro e
  obtain ⟨t, m, h1, h2, _⟩ := h.shB
  have := ownsRow_shape h.own
  rw [e, h1] at this
  simp at this
  exact h2 this.1

theorem HeapSt.ltB {w : World} {base B ho g cap : Nat} {es : List (Int × Nat)} (h : HeapSt w base B ho g cap es) : B < w.heap.size :=
  World.block_lt_of_cell? w _ h.hdr
theorem HeapSt.ltg {w : World} {base B ho g cap : Nat} {es : List (Int × Nat)} (h : HeapSt w base B ho g cap es) : g < w.heap.size := ownsRow_lt h.own

theorem Nd.lt {w : World} {p : Nat} {wh : Int} (h : Nd w p wh) : p < w.heap.size := lt_of_shape h.shp

theorem HeapSt.gp {w : World} {base B ho g cap : Nat} {es : List (Int × Nat)} (h : HeapSt w base B ho g cap es) {p : Nat} {wh : Int} (hp : Nd w p wh) : g ≠ p := by
  intro e
  have := ownsRow_shape h.own
  rw [e, hp.shp] at this
  simp at this

theorem HeapSt.Bp {w : World} {base B ho g cap : Nat} {es : List (Int × Nat)} (h : HeapSt w base B ho g cap es) {p : Nat} {wh : Int} (hp : Nd w p wh) : B ≠ p := by
  intro e
  obtain ⟨t, m, h1, _, h2⟩ := h.shB
  rw [e, hp.shp] at h1
  simp at h1
  exact h2 h1.1.symm

theorem HeapSt.even {w : World} {base B ho g cap : Nat} {es : List (Int × Nat)} (h : HeapSt w base B ho g cap es) (i : Nat) (hi : i < es.length) :
    w.cell? ⟨g, i * 2, none⟩ = some (.int .i64 (wn es i)) := by
  rw [h.own.cellAt _ (by omega), cellsOf_even es i hi, wn_get]
theorem HeapSt.odd {w : World} {base B ho g cap : Nat} {es : List (Int × Nat)} (h : HeapSt w base B ho g cap es) (i : Nat) (hi : i < es.length) :
    w.cell? ⟨g, i * 2 + 1, none⟩ = some (.pointer (some ⟨nn es i, 0, none⟩)) := by
  rw [h.own.cellAt _ (by omega), cellsOf_odd es i hi, nn_get]

/-- a node stays a node where only positions turn -/
theorem Nd.frm {w w' : World} {S : Nat → Nat → Prop} (h : Frm w w' S) {p : Nat} {wh : Int} (hp : Nd w p wh) (h0 : ¬ S p 0) : Nd w' p wh :=
  ⟨(h.shp p hp.lt ⟨0, h0⟩).trans hp.shp, (h.cell p 0 hp.lt h0).trans hp.when, (h.frz p 2 hp.lt ⟨0, h0⟩).trans hp.frz⟩

/-- the heap stands where its header and its row do -/
theorem HeapSt.frm {w w' : World} {S : Nat → Nat → Prop} (h : Frm w w' S) {base B ho g cap : Nat} {es : List (Int × Nat)} (H : HeapSt w base B ho g cap es) (h0 : ¬ S B ho) (h1 : ∀ o, ¬ S g o) : HeapSt w' base B ho g cap es :=
  ⟨(h.cell B ho H.ltB h0).trans H.hdr, ownsRow_block H.own (h.blk g H.ltg h1), by obtain ⟨t, m, h2, h3⟩ := H.shB; exact ⟨t, m, (h.shp B H.ltB ⟨ho, h0⟩).trans h2, h3⟩⟩

/-- what the stores of 'set' leave: a lemma on worlds -/
theorem set_post {w : World} {base B ho g cap : Nat} {es : List (Int × Nat)} (H : HeapSt w base B ho g cap es) {i p : Nat} {wh : Int} (hi : i < es.length) (hp : Nd w p wh) (v : Value) (o : Obj) (nq : Nat) :
    HeapSt ((((w.setCell ⟨g, i * 2, none⟩ (.int .i64 wh)).setCell ⟨g, i * 2 + 1, none⟩ (.pointer (some ⟨p, 0, none⟩))).setCell ⟨p, 2, none⟩ v).alloc o |>.drewN nq) base B ho g cap (es.set i (wh, p)) ∧
    ((((w.setCell ⟨g, i * 2, none⟩ (.int .i64 wh)).setCell ⟨g, i * 2 + 1, none⟩ (.pointer (some ⟨p, 0, none⟩))).setCell ⟨p, 2, none⟩ v).alloc o |>.drewN nq).cell? ⟨p, 2, none⟩ = some v ∧
    Frm w ((((w.setCell ⟨g, i * 2, none⟩ (.int .i64 wh)).setCell ⟨g, i * 2 + 1, none⟩ (.pointer (some ⟨p, 0, none⟩))).setCell ⟨p, 2, none⟩ v).alloc o |>.drewN nq) (fun k o => (k = g ∧ o < es.length * 2) ∨ (k = p ∧ o = 2)) := by
  have hgB := H.gB
  have hgp := H.gp hp
  have hBp := H.Bp hp
  have F : Frm w ((((w.setCell ⟨g, i * 2, none⟩ (.int .i64 wh)).setCell ⟨g, i * 2 + 1, none⟩ (.pointer (some ⟨p, 0, none⟩))).setCell ⟨p, 2, none⟩ v).alloc o |>.drewN nq) (fun k o => (k = g ∧ o < es.length * 2) ∨ (k = p ∧ o = 2)) :=
    (((((Frm.setCell w g (i * 2) _ _ (Or.inl ⟨rfl, by omega⟩)).trans (Frm.setCell _ g (i * 2 + 1) _ _ (Or.inl ⟨rfl, by omega⟩))).trans (Frm.setCell _ p 2 _ _ (Or.inr ⟨rfl, rfl⟩))).trans (Frm.alloc _ _ _)).trans (Frm.drewN _ _ _))
  refine ⟨⟨?_, ?_, ?_⟩, ?_, F⟩
  · rw [F.cell B ho H.ltB (by rintro (⟨h, _⟩ | ⟨h, _⟩) <;> simp_all), H.hdr]
    simp
  · have o1 := (H.own.stored (i * 2) (.int .i64 wh)).1
    have o2 := (o1.stored (i * 2 + 1) (.pointer (some ⟨p, 0, none⟩))).1
    rw [cellsOf_set es i (wh, p)] at o2
    rw [List.length_set]
    refine ownsRow_block o2 ?_
    show ((World.setCell _ ⟨p, 2, none⟩ v).alloc o).heap[g]? = _
    rw [Below.heap_alloc _ _ _ (by simp; exact H.ltg), Below.heap_setCell _ _ _ _ hgp]
  · obtain ⟨t, m, h2, h3⟩ := H.shB
    exact ⟨t, m, (F.shp B H.ltB ⟨ho, by rintro (⟨h, _⟩ | ⟨h, _⟩) <;> simp_all⟩).trans h2, h3⟩
  · obtain ⟨u, hu⟩ := cell_of_shape hp.shp 2 (by decide)
    show ((World.setCell _ ⟨p, 2, none⟩ v).alloc o).cell? _ = _
    rw [World.cell?_alloc_lt _ _ _ (by simp; exact hp.lt)]
    refine World.cell?_setCell_same (u := u) _ _ _ ?_
    rw [World.cell?_setCell_other _ _ _ _ (fun e => hgp (congrArg Addr.block e)), World.cell?_setCell_other _ _ _ _ (fun e => hgp (congrArg Addr.block e))]
    exact hu

theorem set_calls (base B ho g cap i p : Nat) (wh : Int) (es : List (Int × Nat)) (w : World) (H : HeapSt w base B ho g cap es) (hi : i < es.length) (hn : es.length < 100000000) (hp : Nd w p wh) :
    Calls Yba.prog 22 #[.pointer (some ⟨B, ho, none⟩), .int .i64 i, .agg #[.int .i64 wh, .pointer (some ⟨p, 0, none⟩)]] w fun e w' =>
      e = .returned (.tuple #[]) ∧ HeapSt w' base B ho g cap (es.set i (wh, p)) ∧ w'.cell? ⟨p, 2, none⟩ = some (.int .i64 (i * 1024 + 1)) ∧
      Frm w w' (fun k o => (k = g ∧ o < es.length * 2) ∨ (k = p ∧ o = 2)) := by
  obtain ⟨u, hu⟩ := cell_of_shape hp.shp 2 (by decide)
  refine (set_raw B ho g es.length cap i p wh _ _ _ w hi hn H.ltB H.ltg hp.lt H.hdr (H.even i hi) (H.odd i hi) hu (H.own.frozenAt _) (H.own.frozenAt _) hp.frz (H.gp hp)).mono ?_
  rintro e w' ⟨rfl, nq, rfl⟩
  exact ⟨rfl, set_post H hi hp _ _ _⟩

end Go.Proofs.Ybulkaeuq
