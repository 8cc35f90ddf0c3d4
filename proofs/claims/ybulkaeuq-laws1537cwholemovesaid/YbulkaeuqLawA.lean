/-
  LawS1537ADown: what its loops keep. By the prover of seat b1537a.
-/
import Derived.Test.YbulkaeuqDown
import Derived.Test.YbulkaeuqSort
namespace Go.Proofs.Ybulkaeuq
open Go.RowKit

theorem shape?_alloc_new (w : World) (c : Array Value) (t : TypeId) : (w.alloc (.cells c t)).shape? w.heap.size = some (t, c.size) := by
  simp only [World.shape?, heap_alloc_new]

theorem World.shape?_alloc_lt' (w : World) (o : Obj) (k : Nat) (h : k < w.heap.size) : (w.alloc o).shape? k = w.shape? k := by
  simp only [World.shape?, Below.heap_alloc w o k h]

/-- the heap in a world: header, row, order, nodes, positions; all of the call's own -/
structure HQ (base B ho : Nat) (v : Value) (es : List (Int × Nat)) (x : Nat → Prop) (w : World) : Prop where
  hv : HeapV w base B ho v es
  ord : Ord es x
  np : ∀ j, j < es.length → NP w es j
  nod : (es.map (·.2)).Nodup
  lo : ∀ t p, (t, p) ∈ es → base ≤ p

/-- blocks of these kinds are none of the heap's -/
theorem HQ.frm {base B ho : Nat} {v : Value} {es : List (Int × Nat)} {x : Nat → Prop} {w w' : World} {S : Nat → Nat → Prop} (h : HQ base B ho v es x w) (F : Frm w w' S)
    (hB : ¬ S B ho) (hg : ∀ k, v.ownBlock = some k → ∀ o, ¬ S k o) (hN : ∀ k t, (t, k) ∈ es → ∀ o, ¬ S k o) : HQ base B ho v es x w' := by
  have ltB : B < w.heap.size := World.block_lt_of_cell? w _ h.hv.hdr
  refine ⟨⟨(F.cell B ho ltB hB).trans h.hv.hdr, ?_, ?_, (F.frz B ho ltB ⟨ho, hB⟩).trans h.hv.frz⟩, h.ord, ?_, h.nod, h.lo⟩
  · refine ⟨h.hv.own.1, ?_⟩
    rcases h.hv.own.2 with h' | ⟨g, cap, cur, h', hb, hh, r⟩
    · exact .inl h'
    · refine .inr ⟨g, cap, cur, h', hb, (F.blk g (Array.getElem?_eq_some_iff.1 hh).1 (hg g (by rw [h']; rfl))).trans hh, r⟩
  · obtain ⟨t, m, h1, h2⟩ := h.hv.shB
    exact ⟨t, m, (F.shp B ltB ⟨ho, hB⟩).trans h1, h2⟩
  · intro j hj
    obtain ⟨n1, n2⟩ := h.np j hj
    have hm := hN _ _ (mem_pair es j hj)
    exact ⟨n1.frm F (hm 0), (F.cell _ _ n1.lt (hm 2)).trans n2⟩

theorem HQ.alloc {base B ho : Nat} {v : Value} {es : List (Int × Nat)} {x : Nat → Prop} {w : World} (h : HQ base B ho v es x w) (o : Obj) : HQ base B ho v es x (w.alloc o) :=
  h.frm (Frm.alloc w o (fun _ _ => False)) (fun f => f) (fun _ _ _ f => f) (fun _ _ _ _ f => f)
theorem HQ.drew {base B ho : Nat} {v : Value} {es : List (Int × Nat)} {x : Nat → Prop} {w : World} (h : HQ base B ho v es x w) : HQ base B ho v es x w.drew :=
  h.frm (Frm.drew w (fun _ _ => False)) (fun f => f) (fun _ _ _ f => f) (fun _ _ _ _ f => f)
theorem HQ.drewN {base B ho : Nat} {v : Value} {es : List (Int × Nat)} {x : Nat → Prop} {w : World} (h : HQ base B ho v es x w) (n : Nat) : HQ base B ho v es x (w.drewN n) :=
  h.frm (Frm.drewN w n (fun _ _ => False)) (fun f => f) (fun _ _ _ f => f) (fun _ _ _ _ f => f)

/-- a block of kind 2 (a row of int64) is none of the heap's: a write to it leaves the heap alone -/
theorem HQ.row {base B ho : Nat} {v : Value} {es : List (Int × Nat)} {x : Nat → Prop} {w w' : World} (h : HQ base B ho v es x w) {q m : Nat} (hq : w.shape? q = some (2, m)) (hs : ∃ t n, w.shape? B = some (t, n) ∧ t ≠ 2) (hg : w.grownBy w' (some q)) :
    HQ base B ho v es x w' := by
  refine h.frm (Frm.grown hg (fun k _ => k = q) (fun k hk _ => by simpa using hk.symm)) ?_ ?_ ?_
  · intro e
    obtain ⟨t, n, h1, h2⟩ := hs
    rw [e, hq] at h1; simp at h1; exact h2 h1.1.symm
  · intro k hk o e
    rcases h.hv.own.2 with ⟨h', _⟩ | ⟨g, cap, cur, h', hb, hh, r⟩
    · rw [h'] at hk; simp [Value.ownBlock] at hk
    · rw [h'] at hk
      simp [Value.ownBlock] at hk
      subst hk
      have : w.shape? g = some (32, cur.size) := by simp [World.shape?, hh]
      rw [e, hq] at this; simp at this
  · intro k t hk o e
    obtain ⟨i, hi, he⟩ := List.getElem_of_mem hk
    have n1 := (h.np i hi).1.shp
    rw [← nn_get es i hi, he, e, hq] at n1
    simp at n1

/-- the heap's first loop: k deadlines are pushed -/
structure Q1 (w : World) (zs : List Int) (k : Nat) (v : Value) (es : List (Int × Nat)) (wr : World) : Prop where
  len : es.length = k
  hq : HQ w.heap.size w.heap.size 0 v es (fun _ => False) wr
  shB : ∃ m, wr.shape? w.heap.size = some (26, m)
  whs : (es.map (·.1)).Perm (zs.take k)
  bel : Below w.heap.size w wr

theorem Q1.start (w : World) (zs : List Int) : Q1 w zs 0 (.slice none 0 0) [] (w.alloc (.cells #[.slice none 0 0] 26)) := by
  have hs : (w.alloc (.cells #[.slice none 0 0] 26)).shape? w.heap.size = some (26, 1) := shape?_alloc_new _ _ _
  refine ⟨rfl, ⟨⟨by simp, World.ownsRow_nil _ _ _ _, ⟨26, 1, hs, by decide, by decide⟩, by simp⟩, ?_, ?_, List.nodup_nil, ?_⟩, ⟨1, hs⟩, by simp, (Below.refl _ _).alloc (Nat.le_refl _) _⟩
  · intro k _ h; simp at h
  · intro k h; simp at h
  · intro t p h; simp at h

/-- the next node, made: what push asks -/
theorem Q1.node {w : World} {zs : List Int} {k : Nat} {v : Value} {es : List (Int × Nat)} {wr : World} (q : Q1 w zs k v es wr) (wh val : Int) :
    HQ w.heap.size w.heap.size 0 v es (fun _ => False) (wr.alloc (.cells #[.int .i64 wh, .int .i64 val, .int .i64 0] 30)) ∧
    Nd (wr.alloc (.cells #[.int .i64 wh, .int .i64 val, .int .i64 0] 30)) wr.heap.size wh ∧ ((es ++ [(wh, wr.heap.size)]).map (·.2)).Nodup := by
  refine ⟨q.hq.alloc _, ⟨?_, by simp, by simp⟩, ?_⟩
  · exact shape?_alloc_new _ _ _
  · rw [List.map_append, List.nodup_append]
    refine ⟨q.hq.nod, by simp, ?_⟩
    intro a ha b hb
    simp at hb
    subst hb
    obtain ⟨⟨t, p⟩, hm, rfl⟩ := List.mem_map.1 ha
    obtain ⟨i, hi, he⟩ := List.getElem_of_mem hm
    have := (q.hq.np i hi).1.lt
    rw [← nn_get es i hi, he] at this
    exact Nat.ne_of_lt this

theorem Q1.push {w : World} {zs : List Int} {k : Nat} {v : Value} {es : List (Int × Nat)} {wr : World} (q : Q1 w zs k v es wr) (hk : k < zs.length) (val wh : Int) (hwh : zs.getD k 0 = wh) {w' : World} {g cap : Nat} {es' : List (Int × Nat)}
    (hp : es'.Perm (es ++ [(wh, wr.heap.size)])) (ho : Ord es' (fun _ => False)) (H : HeapSt w' w.heap.size w.heap.size 0 g cap es') (np : ∀ k, k < es'.length → NP w' es' k) (hf : w'.frozen? ⟨w.heap.size, 0, none⟩ = false)
    (F : Frm (wr.alloc (.cells #[.int .i64 wh, .int .i64 val, .int .i64 0] 30)) w' (fun k o => (k = w.heap.size ∧ o = 0) ∨ some k = v.ownBlock ∨ (o = 2 ∧ ∃ t, (t, k) ∈ es ++ [(wh, wr.heap.size)]))) :
    Q1 w zs (k + 1) (.slice (some ⟨g, 0, none⟩) es'.length cap) es' w' := by
  obtain ⟨_, nd, nod⟩ := q.node wh val
  have hsz : w.heap.size ≤ wr.heap.size := q.bel.size
  have hB : w.heap.size < wr.heap.size := World.block_lt_of_cell? wr _ q.hq.hv.hdr
  refine ⟨?_, ⟨⟨H.hdr, H.own, H.shB, hf⟩, ho, np, perm_nodup hp nod, ?_⟩, ?_, ?_, ?_⟩
  · rw [hp.length_eq]; simp [q.len]
  · intro t p h
    rw [hp.mem_iff, List.mem_append] at h
    rcases h with h | h
    · exact q.hq.lo t p h
    · simp at h; omega
  · obtain ⟨m, hm⟩ := q.shB
    refine ⟨m, (F.shp _ (by simp; omega) ⟨1, ?_⟩).trans ((World.shape?_alloc_lt' _ _ _ hB).trans hm)⟩
    rintro (⟨_, h⟩ | h | ⟨h, _⟩)
    · simp at h
    · exact q.hq.hv.notB h
    · simp at h
  · have e1 : zs.take (k + 1) = zs.take k ++ [wh] := by
      rw [List.take_succ_eq_append_getElem hk]
      simp only [List.getD_eq_getElem?_getD, List.getElem?_eq_getElem hk, Option.getD_some] at hwh
      rw [hwh]
    rw [e1]
    refine (hp.map _).trans ?_
    rw [List.map_append]
    exact q.whs.append_right _
  · have hb1 : Below w.heap.size w (wr.alloc (.cells #[.int .i64 wh, .int .i64 val, .int .i64 0] 30)) := q.bel.alloc hsz _
    refine hb1.trans (F.below _ (by simp; omega) ?_)
    rintro i o hi (⟨h, _⟩ | h | ⟨_, t, h⟩)
    · omega
    · have := (q.hq.hv.own.lt i h.symm).1; omega
    · rw [List.mem_append] at h
      rcases h with h | h
      · have := q.hq.lo t i h; omega
      · simp at h; omega

/-! ### behind the first loop: the heap beside rows of int64 -/
structure QH (w : World) (v : Value) (es : List (Int × Nat)) (x : Nat → Prop) (wr : World) : Prop where
  hq : HQ w.heap.size w.heap.size 0 v es x wr
  shB : ∃ m, wr.shape? w.heap.size = some (26, m)
  bel : Below w.heap.size w wr

def Row (w : World) (g n : Nat) (xs : List Int) (wr : World) : Prop := wr.ownsRow w.heap.size 2 1 (.slice (some ⟨g, 0, none⟩) n n) n (xs.map (Value.int .i64))

theorem Q1.qh {w : World} {zs : List Int} {k : Nat} {v : Value} {es : List (Int × Nat)} {wr : World} (q : Q1 w zs k v es wr) : QH w v es (fun _ => False) wr := ⟨q.hq, q.shB, q.bel⟩

theorem Row.len {w : World} {g n : Nat} {xs : List Int} {wr : World} (r : Row w g n xs wr) : xs.length = n := by have := r.1; simpa using this
theorem Row.shp {w : World} {g n : Nat} {xs : List Int} {wr : World} (r : Row w g n xs wr) : wr.shape? g = some (2, n * 1) := ownsRow_shape r

theorem QH.row {w : World} {v : Value} {es : List (Int × Nat)} {x : Nat → Prop} {wr w' : World} (q : QH w v es x wr) {g n : Nat} {xs : List Int} (r : Row w g n xs wr) (hg : wr.grownBy w' (some g)) : QH w v es x w' := by
  obtain ⟨m, hm⟩ := q.shB
  refine ⟨q.hq.row r.shp ⟨26, m, hm, by decide⟩ hg, ⟨m, ?_⟩, q.bel.grown hg q.bel.size ?_⟩
  · have : w'.heap[w.heap.size]? = wr.heap[w.heap.size]? := hg.block _ (lt_of_shape hm) (fun e => by simp at e; rw [e, r.shp] at hm; simp at hm)
    rw [← hm]
    simp [World.shape?, this]
  · intro k hk
    simp at hk
    rw [← hk]
    exact ownsRow_ge r

theorem QH.alloc {w : World} {v : Value} {es : List (Int × Nat)} {x : Nat → Prop} {wr : World} (q : QH w v es x wr) (o : Obj) : QH w v es x (wr.alloc o) := by
  obtain ⟨m, hm⟩ := q.shB
  exact ⟨q.hq.alloc o, ⟨m, (World.shape?_alloc_lt' _ _ _ (lt_of_shape hm)).trans hm⟩, q.bel.alloc q.bel.size o⟩
theorem QH.drewN {w : World} {v : Value} {es : List (Int × Nat)} {x : Nat → Prop} {wr : World} (q : QH w v es x wr) (n : Nat) : QH w v es x (wr.drewN n) :=
  ⟨q.hq.drewN n, q.shB, ⟨q.bel.os, q.bel.tape, q.bel.output, q.bel.size, q.bel.block⟩⟩
/-- new blocks alone (a make) -/
theorem QH.grown {w : World} {v : Value} {es : List (Int × Nat)} {x : Nat → Prop} {wr w' : World} (q : QH w v es x wr) (hg : wr.grownBy w' none) : QH w v es x w' := by
  obtain ⟨m, hm⟩ := q.shB
  refine ⟨q.hq.frm (Frm.grown hg (fun _ _ => False) (fun k hk => by cases hk)) (fun f => f) (fun _ _ _ f => f) (fun _ _ _ _ f => f), ⟨m, ?_⟩, q.bel.grown hg q.bel.size (fun k hk => by cases hk)⟩
  have : w'.heap[w.heap.size]? = wr.heap[w.heap.size]? := hg.block _ (lt_of_shape hm) (by simp)
  rw [← hm]
  simp [World.shape?, this]

theorem Row.store {w : World} {g n : Nat} {xs : List Int} {wr : World} (r : Row w g n xs wr) (k : Nat) (y : Int) : Row w g n (xs.set k y) (wr.setCell ⟨g, k, none⟩ (.int .i64 y)) := by
  have := (World.ownsRow.stored r k (.int .i64 y)).1
  unfold Row
  rw [List.map_set]
  exact this
theorem QH.store {w : World} {v : Value} {es : List (Int × Nat)} {x : Nat → Prop} {wr : World} (q : QH w v es x wr) {g n : Nat} {xs : List Int} (r : Row w g n xs wr) (k : Nat) (y : Int) : QH w v es x (wr.setCell ⟨g, k, none⟩ (.int .i64 y)) :=
  q.row r (World.ownsRow.stored r k (.int .i64 y)).2
theorem Row.block {w : World} {g n : Nat} {xs : List Int} {wr w' : World} (r : Row w g n xs wr) (h : w'.heap[g]? = wr.heap[g]?) : Row w g n xs w' := ownsRow_block r h
theorem Row.alloc {w : World} {g n : Nat} {xs : List Int} {wr : World} (r : Row w g n xs wr) (o : Obj) : Row w g n xs (wr.alloc o) := World.ownsRow.alloc r o
theorem Row.drewN {w : World} {g n : Nat} {xs : List Int} {wr : World} (r : Row w g n xs wr) (k : Nat) : Row w g n xs (wr.drewN k) := r
theorem Row.grown {w : World} {g n : Nat} {xs : List Int} {wr w' : World} {row : Option Nat} (r : Row w g n xs wr) (hg : wr.grownBy w' row) (hne : some g ≠ row) : Row w g n xs w' :=
  r.block (hg.block g (ownsRow_lt r) hne)
theorem Row.cell {w : World} {g n : Nat} {xs : List Int} {wr : World} (r : Row w g n xs wr) (k : Nat) (hk : k < n) : wr.cell? ⟨g, k, none⟩ = some (.int .i64 (xs.getD k 0)) := by
  rw [World.ownsRow.cellAt r k (by omega)]
  have := r.len
  simp [show k < xs.length by omega]
theorem Row.frz {w : World} {g n : Nat} {xs : List Int} {wr : World} (r : Row w g n xs wr) (k : Nat) : wr.frozen? ⟨g, k, none⟩ = false := World.ownsRow.frozenAt r k

/-- a row of int64 is none that down turns -/
theorem Row.down {w : World} {g n : Nat} {xs : List Int} {wr w' : World} (r : Row w g n xs wr) {gh : Nat} {L : List (Int × Nat)} (F : Frm wr w' (HS gh L)) (h1 : ∃ m, wr.shape? gh = some (32, m)) (h2 : ∀ t k, (t, k) ∈ L → wr.shape? k = some (30, 3)) : Row w g n xs w' := by
  refine r.block (F.blk g (ownsRow_lt r) ?_)
  rintro o (⟨h, _⟩ | ⟨_, t, h⟩)
  · obtain ⟨m, hm⟩ := h1
    rw [← h, r.shp] at hm; simp at hm
  · have := h2 t g h
    rw [r.shp] at this; simp at this

theorem Yba.info2 : (Yba.prog.info? 2).map (fun i => (i.zero, i.size, i.bytes)) = some (some (.int .i64 0), 1, 8) := by kernel_rfl

theorem row_made {w wr w' : World} {n : Nat} (h : w'.ownsRow w.heap.size 2 1 (.slice (some ⟨wr.heap.size, 0, none⟩) n n) n (madeCells (Value.int .i64 0).cells (n * 1)).toList) : Row w wr.heap.size n (List.replicate n 0) w' := by
  unfold Row
  have : (madeCells (Value.int .i64 0).cells (n * 1)).toList = (List.replicate n (0 : Int)).map (Value.int .i64) := by
    rw [Nat.mul_one]
    show (madeCells #[Value.int .i64 0] n).toList = _
    rw [toList_madeCells_one]; simp
  rw [← this]
  exact h

theorem QH.st {w : World} {g n cap : Nat} {es : List (Int × Nat)} {x : Nat → Prop} {wr : World} (q : QH w (.slice (some ⟨g, 0, none⟩) n cap) es x wr) (hn : es.length = n) : HeapSt wr w.heap.size w.heap.size 0 g cap es := by
  subst hn
  exact ⟨q.hq.hv.hdr, q.hq.hv.own, q.hq.hv.shB⟩

theorem mem_set_or {l : List (Int × Nat)} {i : Nat} {e a : Int × Nat} (h : a ∈ l.set i e) : a ∈ l ∨ a = e := List.mem_or_eq_of_mem_set h

theorem QH.node {w : World} {g n cap : Nat} {es : List (Int × Nat)} {x : Nat → Prop} {wr : World} (q : QH w (.slice (some ⟨g, 0, none⟩) n cap) es x wr) (p : Nat) (wh : Int) (hp : Nd wr p wh) (hlo : w.heap.size ≤ p) (hnew : ∀ t k, (t, k) ∈ es → k ≠ p) (i : Nat) :
    ((es.set i (wh, p)).map (·.2)).Nodup ∧ (∀ t k, (t, k) ∈ es.set i (wh, p) → k < wr.heap.size) ∧ (∀ t k, (t, k) ∈ es.set i (wh, p) → wr.shape? k = some (30, 3)) ∧ (∀ t k, (t, k) ∈ es.set i (wh, p) → w.heap.size ≤ k) := by
  have old : ∀ t k, (t, k) ∈ es → Nd wr k t := by
    intro t k h
    obtain ⟨j, hj, he⟩ := List.getElem_of_mem h
    have := (q.hq.np j hj).1
    rwa [← nn_get es j hj, ← wn_get es j hj, he] at this
  have both : ∀ t k, (t, k) ∈ es.set i (wh, p) → Nd wr k t := by
    intro t k h
    rcases mem_set_or h with h | h
    · exact old t k h
    · cases h; exact hp
  refine ⟨?_, fun t k h => (both t k h).lt, fun t k h => (both t k h).shp, ?_⟩
  · rw [List.map_set]
    refine List.pairwise_iff_getElem.2 ?_
    intro a b ha hb hab
    simp only [List.length_set, List.length_map] at ha hb
    have hd := List.pairwise_iff_getElem.1 q.hq.nod a b (by simpa using ha) (by simpa using hb) hab
    rw [List.getElem_set, List.getElem_set]
    split
    · split
      · omega
      · intro e
        exact hnew _ _ (List.getElem_mem hb) (by simpa using e.symm)
    · split
      · intro e
        exact hnew _ _ (List.getElem_mem ha) (by simpa using e)
      · exact hd
  · intro t k h
    rcases mem_set_or h with h | h
    · exact q.hq.lo t k h
    · cases h; exact hlo

theorem QH.down {w : World} {g n cap : Nat} {es es' L0 : List (Int × Nat)} {x y : Nat → Prop} {wr w' : World} (q : QH w (.slice (some ⟨g, 0, none⟩) n cap) es x wr) (hn : es.length = n)
    (hL : L0.length = n) (hnod : (L0.map (·.2)).Nodup) (hlo : ∀ t k, (t, k) ∈ L0 → w.heap.size ≤ k) (hsh : ∀ t k, (t, k) ∈ L0 → wr.shape? k = some (30, 3))
    (hp : es'.Perm L0) (ho : Ord es' y) (H : HeapSt w' w.heap.size w.heap.size 0 g cap es') (np : ∀ k, k < es'.length → NP w' es' k) (F : Frm wr w' (HS g L0)) :
    QH w (.slice (some ⟨g, 0, none⟩) n cap) es' y w' := by
  have hl : es'.length = n := hp.length_eq.trans hL
  obtain ⟨m, hm⟩ := q.shB
  have hB : w.heap.size < wr.heap.size := lt_of_shape hm
  have hgr := ownsRow_ge (q.st hn).own
  have hS : ∀ o, ¬ HS g L0 w.heap.size o := by
    rintro o (⟨h, _⟩ | ⟨_, t, h⟩)
    · exact (q.st hn).gB h.symm
    · have := hsh t _ h
      rw [hm] at this; simp at this
  refine ⟨⟨⟨?_, ?_, H.shB, (F.frz _ _ hB ⟨0, hS 0⟩).trans q.hq.hv.frz⟩, ho, np, perm_nodup hp hnod, fun t p h => hlo t p (hp.mem_iff.1 h)⟩, ⟨m, (F.shp _ hB ⟨0, hS 0⟩).trans hm⟩, q.bel.trans (F.below _ q.bel.size ?_)⟩
  · rw [← hl]; exact H.hdr
  · have := H.own
    rw [hl] at this ⊢
    exact this
  · rintro k o hk (⟨h, _⟩ | ⟨_, t, h⟩)
    · omega
    · have := hlo t k h; omega

theorem sort_row {w : World} {g n : Nat} {xs : List Int} {wr : World} (r : Row w g n xs wr) (hl : n < 100000000) :
    Calls Yba.prog 9 #[.slice (some ⟨g, 0, none⟩) n n] wr fun e w' => e = .returned (.tuple #[]) ∧ Row w g n (xs.mergeSort fun x y => decide (x ≤ y)) w' ∧ wr.grownBy w' (some g) := by
  have h := r.len
  subst h
  exact sort_own w.heap.size g xs.length xs wr r hl

theorem equal_row {w : World} {g1 g2 n : Nat} {xs ys : List Int} {wr : World} (r1 : Row w g1 n xs wr) (r2 : Row w g2 n ys wr) (hl : n < 100000000) (he : xs = ys) :
    Calls Yba.prog 11 #[.slice (some ⟨g1, 0, none⟩) n n, .slice (some ⟨g2, 0, none⟩) n n] wr fun e w' => e = .returned (.bool true) ∧ ∃ q, w' = wr.drewN q := by
  have h := r1.len
  subst h
  subst he
  refine (equal_own w.heap.size g1 g2 xs.length xs.length xs xs wr r1 r2 hl hl).mono ?_
  rintro e w' ⟨rfl, hq⟩
  exact ⟨by simp, hq⟩

theorem map_eq_of_getD {xs : List Int} {es : List (Int × Nat)} {k : Nat} (h1 : xs.length = k) (h2 : es.length = k) (h : ∀ t, t < k → xs.getD t 0 = wn es t) : xs = es.map (·.1) := by
  apply List.ext_getElem
  · simp [h1, h2]
  · intro t h3 h4
    have := h t (by omega)
    rw [← wn_get es t (by omega)] at this
    simp [h3] at this
    simp [this]

/-- a round of the third loop -/
theorem round3 {w : World} {v : Value} {es : List (Int × Nat)} {x : Nat → Prop} {wr : World} {gw gg j m a b : Nat} {xs ys : List Int} {xm : Int} (o : Obj) (q : QH w v es x wr) (ra : Row w gw j xs wr) (rb : Row w gg j ys wr) (hne : gw ≠ gg) (hm : m < j) (hxm : wn es m = xm)
    (hys : ∀ t, t < m → ys.getD t 0 = wn es t) :
    QH w v es x ((((wr.alloc o).drewN a).setCell ⟨gg, m, none⟩ (.int .i64 xm)).drewN b) ∧ Row w gw j xs ((((wr.alloc o).drewN a).setCell ⟨gg, m, none⟩ (.int .i64 xm)).drewN b) ∧
    Row w gg j (ys.set m xm) ((((wr.alloc o).drewN a).setCell ⟨gg, m, none⟩ (.int .i64 xm)).drewN b) ∧ ∀ t, t < m + 1 → (ys.set m xm).getD t 0 = wn es t := by
  have rb1 : Row w gg j ys ((wr.alloc o).drewN a) := (rb.alloc o).drewN a
  refine ⟨(((q.alloc o).drewN a).store rb1 m xm).drewN b, ?_, (rb1.store m xm).drewN b, ?_⟩
  · have ra1 : Row w gw j xs ((wr.alloc o).drewN a) := (ra.alloc o).drewN a
    exact (ra1.grown (World.ownsRow.stored rb1 m (.int .i64 xm)).2 (by simpa using hne)).drewN b
  · intro t ht
    have hl := rb.len
    by_cases e : t = m
    · subst e; simp [show t < ys.length by omega, hxm]
    · have := hys t (by omega)
      simp only [List.getD_eq_getElem?_getD] at this ⊢
      rw [List.getElem?_set_ne (fun h => e h.symm)]
      exact this

end Go.Proofs.Ybulkaeuq
