/-
  The contract of (*heap[int]).push. By the prover of seat b1537a.
-/
import Derived.Test.YbulkaeuqUp
namespace Go
theorem ownsRow_rebase {w : World} {base base' e size n : Nat} {v : Value} {xs : List Value} (h : w.ownsRow base e size v n xs) (hb : base' ≤ base) : w.ownsRow base' e size v n xs := by
  refine ⟨h.1, ?_⟩
  rcases h.2 with h' | ⟨g, cap, cur, h', hbs, r⟩
  · exact .inl h'
  · exact .inr ⟨g, cap, cur, h', Nat.le_trans hb hbs, r⟩

/-- 'run_append_own', and where the new row lies: where the old one lay, or in new memory -/
theorem run_append_own2 {P : Program} (w : World) (base : Nat) (t ty e : TypeId) (i : TypeInfo) (z : Value) (size bytes : Nat) (ht : P.underlying t = some (.slice e)) (hi : P.info? e = some i) (hz : i.zero = some z)
    (hsize : i.size = size) (hby : i.bytes = bytes) (hzs : z.cells.size = size) (hsz : 0 < size)
    (v : Value) (n : Nat) (xs : List Value) (hown : w.ownsRow base e size v n xs)
    (a : Addr) (m c : Nat) (news : List Value) (hl : news.length = m * size) (hnews : ∀ j u, news[j]? = some u → w.cell? (a.add j) = some u) (h1 : ∀ u ∈ news, u.oneCell' = true)
    (h63 : n + m ≤ maxLen) (hbytes : (n + m) * bytes ≤ 140737488355328) (hbase : base ≤ w.heap.size) :
    ∃ v' w', (Builtin.append_ #[t, t] ty #[v, .slice (some a) m c]).run P w = .ok v' w' ∧ w'.ownsRow base e size v' (n + m) (xs ++ news) ∧ w.grownBy w' v.ownBlock ∧ (∀ g, v'.ownBlock = some g → v.ownBlock = some g ∨ w.heap.size ≤ g) := by
  rcases hown.2 with ⟨rfl, rfl⟩ | ⟨g, cap, cur, rfl, hb, hg, hnc, hcm, hcs, htake⟩
  · obtain rfl : xs = [] := List.eq_nil_of_length_eq_zero (by simpa using hown.1)
    obtain ⟨v', w', hrun, r1, r2, _⟩ := run_append_own (P := P) w w.heap.size t ty e i z size bytes ht hi hz hsize hby hzs hsz (.slice none 0 0) 0 [] (World.ownsRow_nil w _ e size) a m c news hl hnews h1 h63 hbytes (Nat.le_refl _)
    exact ⟨v', w', hrun, ownsRow_rebase r1 hbase, r2, fun g hg => .inr (r1.lt g hg).1⟩
  · by_cases hr : n + m ≤ cap
    · obtain ⟨w', hrun, r1, r2⟩ := run_append_fits (P := P) w base t ty e i size ht hi hsize g n cap xs hown a m c news hl hnews h1 hr
      exact ⟨_, w', hrun, r1, r2, fun g' hg' => .inl hg'⟩
    · obtain ⟨v', w', hrun, r1, r2⟩ := run_append_arg_grows (P := P) w t ty e i z size bytes ht hi hz hsize hby hzs hsz ⟨g, 0, none⟩ n cap xs hown.1 (hown.cells rfl) a m c news hl hnews (by omega) h63 hbytes
      exact ⟨v', w', hrun, ownsRow_rebase r1 hbase, ⟨r2.os, r2.tape, r2.output, r2.size, fun k hk _ => r2.block k hk (by simp)⟩, fun g' hg' => .inr (r1.lt g' hg').1⟩

/-- 'append' ON A ROW OF THE CALL's OWN (nil, with room, or grown), as one step of a region that draws. -/
theorem step_append_own {P : Program} {ops : Array Oper} {o : Oper} {a : Act} {w : World} {K : Act → World → Prop} {Q : Exit → Act → World → Prop} {E : Prop}
    (hg : o.guard = none) (s x : Operand) (t : TypeId) (hop : o.op = Op.call { callee := Callee.builtin Builtin.append, args := #[s, x], argTypes := #[t, t] })
    (base : Nat) (e : TypeId) (i : TypeInfo) (z : Value) (size bytes : Nat) (h1 : P.underlying t = some (.slice e)) (h2 : P.info? e = some i) (h3 : i.zero = some z) (h4 : i.size = size) (h5 : i.bytes = bytes) (h6 : z.cells.size = size) (h7 : 0 < size)
    (v : Value) (n : Nat) (olds : List Value) (hs : a.eval s = v) (hown : w.ownsRow base e size v n olds)
    (ad : Addr) (m c : Nat) (news : List Value) (hx : a.eval x = .slice (some ad) m c) (hn : news.length = m * size) (hc : ∀ j u, news[j]? = some u → w.cell? (ad.add j) = some u) (h1c : ∀ u ∈ news, u.oneCell' = true)
    (b1 : n + m ≤ maxLen) (b2 : (n + m) * bytes ≤ 140737488355328) (hbase : base ≤ w.heap.size)
    (hK : ∀ v' w', w'.ownsRow base e size v' (n + m) (olds ++ news) → w.grownBy w' v.ownBlock → (∀ g, v'.ownBlock = some g → v.ownBlock = some g ∨ w.heap.size ≤ g) → K (a.put o.dst v') w') :
    if Region.wanted o (yielded ops a.tmps) = true then Oper.wp P o a w K Q else E := by
  have hw : Region.wanted o (yielded ops a.tmps) = true := by simp [Region.wanted, hg]
  rw [if_pos hw]
  obtain ⟨v', w', hrun, r1, r2, r3⟩ := run_append_own2 (P := P) w base t o.type e i z size bytes h1 h2 h3 h4 h5 h6 h7 v n olds hown ad m c news hn hc h1c b1 b2 hbase
  unfold Oper.wp
  simp [execOp, hop, resolve, invoke, builtin, hs, hx, hrun, Result.andThen]
  exact hK v' w' r1 r2 r3
end Go
namespace Go.Proofs.Ybulkaeuq
open Go.RowKit

theorem Yba.info32 : (Yba.prog.info? 32).map (fun i => (i.zero, i.size, i.bytes)) = some (some (.agg #[.int .i64 0, .pointer none]), 2, 16) := by kernel_rfl

/-- the heap, empty (nil) or not -/
structure HeapV (w : World) (base B ho : Nat) (v : Value) (es : List (Int × Nat)) : Prop where
  hdr : w.cell? ⟨B, ho, none⟩ = some v
  own : w.ownsRow base 32 2 v es.length (cellsOf es)
  shB : ∃ t m, w.shape? B = some (t, m) ∧ t ≠ 32 ∧ t ≠ 30
  frz : w.frozen? ⟨B, ho, none⟩ = false

theorem ownsRow_form {w : World} {base e size n : Nat} {v : Value} {xs : List Value} (h : w.ownsRow base e size v n xs) (hn : 0 < n) : ∃ g cap, v = .slice (some ⟨g, 0, none⟩) n cap := by
  rcases h.2 with ⟨_, h'⟩ | ⟨g, cap, _, h', _⟩
  · omega
  · exact ⟨g, cap, h'⟩

theorem two_cells (w : World) (a b : Value) (t n : Nat) (hn : n = w.heap.size) : ∀ j u, [a, b][j]? = some u → (w.alloc (.cells #[a, b] t)).cell? ((⟨n, 0, none⟩ : Addr).add j) = some u := by
  subst hn
  intro j u hj
  match j, hj with
  | 0, hj => simp at hj; subst hj; simp [Addr.add]
  | 1, hj => simp at hj; subst hj; simp [Addr.add]
theorem two_one (a b : Value) (ha : a.oneCell' = true) (hb : b.oneCell' = true) : ∀ u ∈ [a, b], u.oneCell' = true := by
  intro u hu
  simp at hu
  rcases hu with rfl | rfl
  · exact ha
  · exact hb

theorem HeapV.notB {w : World} {base B ho : Nat} {v : Value} {es : List (Int × Nat)} (h : HeapV w base B ho v es) : some B ≠ v.ownBlock := by
  rcases h.own.2 with ⟨hv, _⟩ | ⟨g, cap, cur, hv, _⟩
  · rw [hv]; simp [Value.ownBlock]
  · obtain ⟨t, m, h1, h2, _⟩ := h.shB
    have ho := h.own
    rw [hv] at ho ⊢
    have := ownsRow_shape ho
    simp only [Value.ownBlock, ne_eq, Option.some.injEq]
    intro e
    rw [← e, h1] at this
    simp at this
    exact h2 this.1

theorem HeapV.notP {w : World} {base B ho : Nat} {v : Value} {es : List (Int × Nat)} (h : HeapV w base B ho v es) {p : Nat} {wh : Int} (hp : Nd w p wh) : some p ≠ v.ownBlock := by
  rcases h.own.2 with ⟨hv, _⟩ | ⟨g, cap, cur, hv, _⟩
  · rw [hv]; simp [Value.ownBlock]
  · have ho := h.own
    rw [hv] at ho ⊢
    have := ownsRow_shape ho
    simp only [Value.ownBlock, ne_eq, Option.some.injEq]
    intro e
    rw [← e, hp.shp] at this
    simp at this

theorem Nd.drew {w : World} {p : Nat} {wh : Int} (h : Nd w p wh) : Nd w.drew p wh := ⟨h.shp, h.when, h.frz⟩
theorem NP.drew {w : World} {es : List (Int × Nat)} {k : Nat} (h : NP w es k) : NP w.drew es k := ⟨h.1.drew, h.2⟩
theorem HeapSt.drew {w : World} {base B ho g cap : Nat} {es : List (Int × Nat)} (H : HeapSt w base B ho g cap es) : HeapSt w.drew base B ho g cap es := ⟨H.hdr, H.own, H.shB⟩

theorem all_lt {w : World} {es : List (Int × Nat)} {e : Int × Nat} (h1 : ∀ k, k < es.length → NP w (es ++ [e]) k) (h2 : Nd w e.2 e.1) : ∀ t k, (t, k) ∈ es ++ [e] → k < w.heap.size := by
  intro t k h
  rw [List.mem_append] at h
  rcases h with h | h
  · obtain ⟨i, hi, he⟩ := List.getElem_of_mem h
    have := (h1 i hi).1.lt
    have e1 : nn (es ++ [e]) i = k := by simp [nn, List.getElem?_append_left hi, hi, he]
    rwa [e1] at this
  · simp at h
    have := h2.lt
    rw [← h] at this
    exact this

/-- behind the append and the store of the header -/
theorem push_mid {w W w1 : World} {base B ho p g cap : Nat} {wh : Int} {v : Value} {es : List (Int × Nat)} (HV : HeapV w base B ho v es) (hN : ∀ k, k < es.length → NP w es k) (hp : Nd w p wh)
    (F0 : Frm w W (fun _ _ => False)) (hs0 : w.heap.size < W.heap.size) (hg1 : W.grownBy w1 v.ownBlock) (hw : ∀ g', (Value.slice (some ⟨g, 0, none⟩) (es.length + 1) cap).ownBlock = some g' → v.ownBlock = some g' ∨ W.heap.size ≤ g')
    (ho1 : w1.ownsRow base 32 2 (.slice (some ⟨g, 0, none⟩) (es.length + 1) cap) (es.length + 1) (cellsOf es ++ [.int .i64 wh, .pointer (some ⟨p, 0, none⟩)])) :
    HeapSt (w1.setCell ⟨B, ho, none⟩ (.slice (some ⟨g, 0, none⟩) (es.length + 1) cap)) base B ho g cap (es ++ [(wh, p)]) ∧
    (∀ k, k < es.length → NP (w1.setCell ⟨B, ho, none⟩ (.slice (some ⟨g, 0, none⟩) (es.length + 1) cap)) (es ++ [(wh, p)]) k) ∧
    Nd (w1.setCell ⟨B, ho, none⟩ (.slice (some ⟨g, 0, none⟩) (es.length + 1) cap)) p wh ∧
    (∀ o, (w1.setCell ⟨B, ho, none⟩ (.slice (some ⟨g, 0, none⟩) (es.length + 1) cap)).cell? ⟨w.heap.size, o, none⟩ = W.cell? ⟨w.heap.size, o, none⟩) ∧
    w1.frozen? ⟨B, ho, none⟩ = false ∧ (v.ownBlock = some g ∨ w.heap.size ≤ g) ∧
    Frm w (w1.setCell ⟨B, ho, none⟩ (.slice (some ⟨g, 0, none⟩) (es.length + 1) cap)) (fun k o => (k = B ∧ o = ho) ∨ some k = v.ownBlock) := by
  have hnB := HV.notB
  have hnP := HV.notP hp
  have hB : B < w.heap.size := World.block_lt_of_cell? w _ HV.hdr
  have F1 : Frm w w1 (fun k o => (k = B ∧ o = ho) ∨ some k = v.ownBlock) := (F0.mono (fun _ _ _ h => h.elim)).trans (Frm.grown hg1 _ (fun k hk o => Or.inr hk.symm))
  have F2 := F1.trans (Frm.setCell w1 B ho (.slice (some ⟨g, 0, none⟩) (es.length + 1) cap) _ (Or.inl ⟨rfl, rfl⟩))
  have FB : ∃ o', ¬ ((B = B ∧ o' = ho) ∨ some B = v.ownBlock) := ⟨ho + 1, by rintro (⟨_, h⟩ | h); omega; exact hnB h⟩
  obtain ⟨t, m, h1, h2⟩ := HV.shB
  have hB1 : B < w1.heap.size := Nat.lt_of_lt_of_le hB F1.size
  have hgB : g ≠ B := by
    intro e
    have := ownsRow_shape ho1
    rw [e, F1.shp B hB FB, h1] at this
    simp at this
    exact h2.1 this.1
  have hBc : w1.cell? ⟨B, ho, none⟩ = some v := by
    rw [World.cell?_of_block (w := W) (hg1.block B (Nat.lt_trans hB hs0) hnB)]
    exact (F0.cell B ho hB (fun h => h)).trans HV.hdr
  have nd : ∀ q wq, Nd w q wq → Nd (w1.setCell ⟨B, ho, none⟩ (.slice (some ⟨g, 0, none⟩) (es.length + 1) cap)) q wq := by
    intro q wq hq
    refine hq.frm F2 ?_
    rintro (⟨h, _⟩ | h)
    · have := hq.shp
      rw [h, h1] at this; simp at this; exact h2.2 this.1
    · exact HV.notP hq h
  refine ⟨⟨?_, ?_, ⟨t, m, (F2.shp B hB FB).trans h1, h2⟩⟩, ?_, nd p wh hp, ?_, ?_, ?_, F2⟩
  · rw [World.cell?_setCell_same (u := v) _ _ _ hBc]; simp
  · rw [cellsOf_append, List.length_append]
    exact ownsRow_block ho1 (Below.heap_setCell _ _ _ _ hgB)
  · intro k hk
    obtain ⟨n1, n2⟩ := hN k hk
    unfold NP
    have e1 : nn (es ++ [(wh, p)]) k = nn es k := by simp [nn, List.getElem?_append_left hk]
    have e2 : wn (es ++ [(wh, p)]) k = wn es k := by simp [wn, List.getElem?_append_left hk]
    rw [e1, e2]
    refine ⟨nd _ _ n1, ?_⟩
    rw [F2.cell _ _ n1.lt ?_]
    · exact n2
    · rintro (⟨h, _⟩ | h)
      · have := n1.shp
        rw [h, h1] at this; simp at this; exact h2.2 this.1
      · exact HV.notP n1 h
  · intro o
    rw [World.cell?_setCell_other _ _ _ _ (fun e => by have := congrArg Addr.block e; simp at this; omega)]
    refine World.cell?_of_block (w := W) (hg1.block w.heap.size hs0 ?_)
    intro e
    have := (HV.own.lt w.heap.size e.symm).2
    omega
  · rw [World.frozen?_of_block (w := W) (hg1.block B (Nat.lt_trans hB hs0) hnB)]
    exact (F0.frz B ho hB ⟨0, fun h => h⟩).trans HV.frz
  · rcases hw g rfl with h | h
    · exact Or.inl h
    · exact Or.inr (by omega)

theorem push_end {w w2 w' : World} {B ho g : Nat} {v : Value} {L : List (Int × Nat)} (hB : B < w.heap.size) (F2 : Frm w w2 (fun k o => (k = B ∧ o = ho) ∨ some k = v.ownBlock)) (hfz : w2.frozen? ⟨B, ho, none⟩ = false)
    (hgg : v.ownBlock = some g ∨ w.heap.size ≤ g) (q5 : Frm w2.drew w' (HS g L)) :
    w'.frozen? ⟨B, ho, none⟩ = false ∧ Frm w w' (fun k o => (k = B ∧ o = ho) ∨ some k = v.ownBlock ∨ (o = 2 ∧ ∃ t, (t, k) ∈ L)) := by
  refine ⟨?_, ?_⟩
  · rw [q5.frz B ho (Nat.lt_of_lt_of_le hB F2.size) ⟨3 + L.length * 2, ?_⟩]
    · exact hfz
    · rintro (⟨_, h⟩ | ⟨h, _⟩) <;> omega
  · refine (F2.mono (fun k o _ h => h.elim Or.inl (fun h => Or.inr (Or.inl h)))).trans2 ((Frm.drew w2 _).trans q5) ?_
    rintro k o hk (⟨h, _⟩ | h)
    · subst h
      rcases hgg with h | h
      · exact Or.inr (Or.inl h.symm)
      · omega
    · exact Or.inr (Or.inr h)

set_option maxHeartbeats 1000000 in
set_option maxRecDepth 100000 in
theorem push_calls (base B ho p : Nat) (wh : Int) (v : Value) (es : List (Int × Nat)) (w : World) (hn : es.length < 10000000) (HV : HeapV w base B ho v es) (hbase : base ≤ w.heap.size)
    (O : Ord es (fun _ => False)) (hN : ∀ k, k < es.length → NP w es k) (hp : Nd w p wh) (hd : ((es ++ [(wh, p)]).map (·.2)).Nodup) :
    Calls Yba.prog 8 #[.pointer (some ⟨B, ho, none⟩), .pointer (some ⟨p, 0, none⟩)] w fun r w' =>
      r = .returned (.tuple #[]) ∧ ∃ g cap es', es'.Perm (es ++ [(wh, p)]) ∧ Ord es' (fun _ => False) ∧ HeapSt w' base B ho g cap es' ∧ (∀ k, k < es'.length → NP w' es' k) ∧ w'.frozen? ⟨B, ho, none⟩ = false ∧
        Frm w w' (fun k o => (k = B ∧ o = ho) ∨ some k = v.ownBlock ∨ (o = 2 ∧ ∃ t, (t, k) ∈ es ++ [(wh, p)])) := by
  obtain ⟨i0, hi, hz0, hz1, hz2⟩ := info_parts Yba.info32
  have hB : B < w.heap.size := World.block_lt_of_cell? w _ HV.hdr
  have hpl := hp.lt
  have hpw := hp.when
  have hhd := HV.hdr
  have hfr := HV.frz
  have hnB := HV.notB
  have HnB : Hid (some B ≠ v.ownBlock) := hnB
  clear hnB
  go_enter Yba.func8, Yba.ntmps8
  go_wp2_with fail
  go_region_law (refine step_append_own rfl (.tmp 15) (.tmp 17) 24 rfl base 32 i0 (.agg #[.int .i64 0, .pointer none]) 2 16 Yba.underlying24 hi hz0 hz1 hz2 rfl (by decide) v es.length (cellsOf es) (by simp [Act.eval]) (by exact ((HV.own.alloc _).alloc _)) ⟨w.heap.size + 1, 0, none⟩ 1 1 [.int .i64 wh, .pointer (some ⟨p, 0, none⟩)] (by simp [Act.eval]) rfl (by exact two_cells _ _ _ _ _ (by simp)) (by exact two_one _ _ rfl rfl) (by unfold maxLen; omega) (by omega) (by simp; omega) ?_; intro v' w1 hown1 hgrow1 hwh1; obtain ⟨g, cap, rfl⟩ := ownsRow_form hown1 (by omega); have k0 : w1.cell? ⟨B, ho, none⟩ = some v := (World.cell?_of_block (a := ⟨B, ho, none⟩) (hgrow1.block B (by simp; omega) HnB.out)).trans ((World.cell?_alloc_lt _ _ ⟨B, ho, none⟩ (by simp; omega)).trans ((World.cell?_alloc_lt _ _ ⟨B, ho, none⟩ hB).trans hhd)); have k1 : w1.frozen? ⟨B, ho, none⟩ = false := (World.frozen?_of_block (a := ⟨B, ho, none⟩) (hgrow1.block B (by simp; omega) HnB.out)).trans ((World.frozen?_alloc_old _ _ ⟨B, ho, none⟩ (by simp; omega)).trans ((World.frozen?_alloc_old _ _ ⟨B, ho, none⟩ (by simp; omega)).trans hfr)))
  all_goals
    obtain ⟨H2, N2, P2, bx, fz, hgg, F2⟩ := push_mid HV hN hp (((Frm.alloc _ _ _).trans (Frm.alloc _ _ _)).trans (Frm.drew _ _)) (by simp; omega) hgrow1 hwh1 hown1
    have b0 := bx 0
    have b1 := bx 1
    have b0' : World.cell? _ ⟨w.heap.size, 0, none⟩ = some (.int .i64 wh) := b0.trans (by simp)
    have b1' : World.cell? _ ⟨w.heap.size, 1, none⟩ = some (.pointer (some ⟨p, 0, none⟩)) := b1.trans (by simp)
    clear b0 b1 bx k0 k1 hown1 hgrow1
    have hfz2 : (w1.setCell ⟨B, ho, none⟩ (.slice (some ⟨g, 0, none⟩) (es.length + 1) cap)).frozen? ⟨B, ho, none⟩ = false := by simp; exact fz
    generalize w1.setCell ⟨B, ho, none⟩ (.slice (some ⟨g, 0, none⟩) (es.length + 1) cap) = w2 at *
    have hh2 := H2.hdr
    rw [List.length_append, List.length_cons, List.length_nil] at hh2
    have hL : Hid (∀ t k, (t, k) ∈ es ++ [(wh, p)] → k < w2.heap.size) := all_lt N2 P2
    have hwr : Hid (IntKind.i64.wrap (es.length : Int) = (es.length : Int)) := wraps_i64_62 _ (by omega) (by omega)
    have HF : Hid (v.ownBlock = some g ∨ w.heap.size ≤ g) := hgg
    clear hgg
    go_wp2_with fail
    go_region_with (go_at_call 19; rw [hwr.out]; refine (up_calls (es ++ [(wh, p)]) (wh, p) base B ho g cap es.length (es ++ [(wh, p)]) _ (by simp; omega) hd (UpInv.start O) H2.drew (fun k hk hne => (N2 k (by simp at hk; omega)).drew) P2.drew hL.out).mono ?_; rintro r w' ⟨rfl, es', q1, q2, q3, q4, q5⟩)
    all_goals
      go_end0
      exact ⟨rfl, g, cap, es', q1, q2, q3, q4, push_end hB F2 hfz2 HF.out q5⟩
end Go.Proofs.Ybulkaeuq
