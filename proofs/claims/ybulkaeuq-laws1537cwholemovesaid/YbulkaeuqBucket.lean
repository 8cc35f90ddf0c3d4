/-
  The bucket in memory ('Bk'), and the contracts of its methods. By the prover of seat b1537a.
-/
import Derived.Test.YbulkaeuqPush
import Derived.Lib.SliceRun
namespace Go.Proofs.Ybulkaeuq
open Go.RowKit

set_option maxHeartbeats 400000 in
theorem bucket_calls (W K : Nat) (w : World) (h0 : w.cell? ⟨W, 0, none⟩ = some (.pointer (some ⟨K, 0, none⟩))) :
    Calls Yba.prog 15 #[.pointer (some ⟨W, 0, none⟩), .int .i64 0] w fun e w' => e = .returned (.pointer (some ⟨K, 0, none⟩)) ∧ w' = w := by
  go_enter Yba.func15, Yba.ntmps15
  go_wp2
  go_ret
  exact ⟨rfl, rfl⟩

set_option maxHeartbeats 400000 in
theorem nearby_calls (Q : Nat) (wh : Int) (w : World) (h0 : w.cell? ⟨Q, 0, none⟩ = some (.int .i64 0)) (h1 : 0 ≤ wh) (h2 : wh < 65536) :
    Calls Yba.prog 40 #[.pointer (some ⟨Q, 0, none⟩), .int .i64 wh] w fun e w' => e = .returned (.bool true) ∧ w' = w := by
  have hd : wh / 1048576 = 0 := by omega
  go_enter Yba.func40, Yba.ntmps40
  go_wp2
  go_ret
  exact ⟨rfl, rfl⟩

set_option maxHeartbeats 400000 in
theorem len_calls (K : Nat) (a0 a1 : Option Addr) (F fc n cap : Nat) (w : World) (h0 : w.cell? ⟨K, 0, none⟩ = some (.slice a0 F fc)) (h1 : w.cell? ⟨K, 1, none⟩ = some (.slice a1 n cap)) (hF : F < 1000) (hn : n < 100000) :
    Calls Yba.prog 16 #[.pointer (some ⟨K, 0, none⟩)] w fun e w' => e = .returned (.int .i64 (F * 255 + n)) ∧ ∃ q, w' = w.drewN q := by
  go_enter Yba.func16, Yba.ntmps16
  go_wp2
  go_quiet (fail)
  go_wp2
  go_ret
  exact ⟨rfl, _, rfl⟩

def ptrs (l : List Nat) : List Value := l.map fun p => .pointer (some ⟨p, 0, none⟩)
theorem ptrs_length (l : List Nat) : (ptrs l).length = l.length := by simp [ptrs]
theorem ptrs_append (l m : List Nat) : ptrs (l ++ m) = ptrs l ++ ptrs m := by simp [ptrs]
theorem ptrs_get (l : List Nat) (i : Nat) (h : i < l.length) : (ptrs l)[i]? = some (.pointer (some ⟨l.getD i 0, 0, none⟩)) := by simp [ptrs, h]
theorem ptrs_one (l : List Nat) : ∀ u ∈ ptrs l, u.oneCell' = true := by
  intro u hu
  simp [ptrs] at hu
  obtain ⟨a, _, rfl⟩ := hu
  rfl

/-- THE BUCKET AT ⟨K, 0⟩: its full arrays fs, holding the nodes cs; its tail t; its spare sp. All its arrays lie from bb on. -/
structure Bk (w : World) (bb K : Nat) (fs : List Nat) (cs : List (List Nat)) (t : List Nat) (vf vt : Value) (sp : Option Addr) : Prop where
  c0 : w.cell? ⟨K, 0, none⟩ = some vf
  c1 : w.cell? ⟨K, 1, none⟩ = some vt
  c2 : w.cell? ⟨K, 2, none⟩ = some (.pointer sp)
  sh : w.shape? K = some (75, 192)
  fz : ∀ o, w.frozen? ⟨K, o, none⟩ = false
  hK : K < bb
  own0 : w.ownsRow bb 72 1 vf fs.length (ptrs fs)
  own1 : w.ownsRow bb 28 1 vt t.length (ptrs t)
  lcs : cs.length = fs.length
  chk : ∀ i, i < fs.length → w.ownsRow bb 28 1 (.slice (some ⟨fs.getD i 0, 0, none⟩) 255 255) 255 (ptrs (cs.getD i []))
  nod : fs.Nodup
  apt : ∀ f ∈ fs, vt.ownBlock ≠ some f
  cap : ∀ a n c, vt = .slice a n c → c ≤ 255 ∧ (fs ≠ [] → c = 255)

/-- which old cells the bucket's methods may turn -/
def BS (w : World) (bb K : Nat) (k o : Nat) : Prop := (k = K ∧ o ≤ 2) ∨ (bb ≤ k ∧ ∃ m, w.shape? k = some (28, m) ∨ w.shape? k = some (72, m))

theorem BS.trans {a b c : World} {bb K : Nat} (h : Frm a b (BS a bb K)) (k : Frm b c (BS b bb K)) : Frm a c (BS a bb K) := by
  refine h.trans2 k ?_
  rintro i o hi hb
  by_cases hs : ∃ o', ¬ BS a bb K i o'
  · have e := h.shp i hi hs
    rcases hb with hb | ⟨hb, m, hm⟩
    · exact Or.inl hb
    · rw [e] at hm
      exact Or.inr ⟨hb, m, hm⟩
  · exact Classical.not_not.1 (fun hn => hs ⟨o, hn⟩)

theorem ownsRow_ptr_cell {w : World} {base e g n cap : Nat} {l : List Nat} (h : w.ownsRow base e 1 (.slice (some ⟨g, 0, none⟩) n cap) n (ptrs l)) (i : Nat) (hi : i < n) : w.cell? ⟨g, i, none⟩ = some (.pointer (some ⟨l.getD i 0, 0, none⟩)) := by
  have hl : l.length = n := by have := h.1; rw [ptrs_length] at this; omega
  rw [h.cellAt i (by omega), ptrs_get l i (by omega)]

theorem Bk.lt {w : World} {bb K : Nat} {fs : List Nat} {cs : List (List Nat)} {t : List Nat} {vf vt : Value} {sp : Option Addr} (h : Bk w bb K fs cs t vf vt sp) : K < w.heap.size := World.block_lt_of_cell? w _ h.c0

theorem Yba.info28 : (Yba.prog.info? 28).map (fun i => (i.zero, i.size, i.bytes)) = some (some (.pointer none), 1, 8) := by kernel_rfl
theorem Yba.info72 : (Yba.prog.info? 72).map (fun i => (i.zero, i.size, i.bytes)) = some (some (.pointer none), 1, 8) := by kernel_rfl

theorem ownsRow_kept {w w' : World} {base e size n : Nat} {v : Value} {xs : List Value} (h : w.ownsRow base e size v n xs) (hb : ∀ k, v.ownBlock = some k → w'.heap[k]? = w.heap[k]?) : w'.ownsRow base e size v n xs := by
  refine ⟨h.1, ?_⟩
  rcases h.2 with h' | ⟨g, cap, cur, h', hbs, hg, r⟩
  · exact .inl h'
  · exact .inr ⟨g, cap, cur, h', hbs, (hb g (by rw [h']; rfl)).trans hg, r⟩

theorem ownsRow_notK {w : World} {base e size n : Nat} {v : Value} {xs : List Value} (h : w.ownsRow base e size v n xs) {K : Nat} (hK : K < base) : v.ownBlock ≠ some K := fun e => by have := (h.lt K e).1; omega

/-- the tail's header is stored anew; all else stands -/
theorem Bk.retail {w : World} {bb K : Nat} {fs : List Nat} {cs : List (List Nat)} {t : List Nat} {vf vt : Value} {sp : Option Addr} (h : Bk w bb K fs cs t vf vt sp) {t' : List Nat} {vt' : Value} (own : w.ownsRow bb 28 1 vt' t'.length (ptrs t'))
    (apt : ∀ f ∈ fs, vt'.ownBlock ≠ some f) (cap : ∀ a n c, vt' = .slice a n c → c ≤ 255 ∧ (fs ≠ [] → c = 255)) : Bk (w.setCell ⟨K, 1, none⟩ vt') bb K fs cs t' vf vt' sp := by
  have hb : ∀ k, k ≠ K → (w.setCell ⟨K, 1, none⟩ vt').heap[k]? = w.heap[k]? := fun k hk => Below.heap_setCell _ _ _ _ hk
  refine ⟨?_, ?_, ?_, ?_, ?_, h.hK, ?_, ?_, h.lcs, ?_, h.nod, apt, cap⟩
  · rw [World.cell?_setCell_other _ _ _ _ (by simp)]; exact h.c0
  · exact World.cell?_setCell_same _ _ _ h.c1
  · rw [World.cell?_setCell_other _ _ _ _ (by simp)]; exact h.c2
  · rw [shape?_setCell]; exact h.sh
  · intro o; rw [World.frozen?_setCell]; exact h.fz o
  · exact ownsRow_kept h.own0 fun k hk => hb k (fun e => ownsRow_notK h.own0 h.hK (e ▸ hk))
  · exact ownsRow_kept own fun k hk => hb k (fun e => ownsRow_notK own h.hK (e ▸ hk))
  · intro i hi
    exact ownsRow_kept (h.chk i hi) fun k hk => hb k (fun e => ownsRow_notK (h.chk i hi) h.hK (e ▸ hk))

/-- nothing of the bucket's has turned -/
theorem Bk.same {w w' : World} {bb K : Nat} {fs : List Nat} {cs : List (List Nat)} {t : List Nat} {vf vt : Value} {sp : Option Addr} (h : Bk w bb K fs cs t vf vt sp) {S : Nat → Nat → Prop} (F : Frm w w' S) (hK : ∀ o, ¬ S K o)
    (hS : ∀ k o m, bb ≤ k → (w.shape? k = some (28, m) ∨ w.shape? k = some (72, m)) → ¬ S k o) : Bk w' bb K fs cs t vf vt sp := by
  have keep : ∀ {e size n : Nat} {v : Value} {xs : List Value}, w.ownsRow bb e size v n xs → (e = 28 ∨ e = 72) → w'.ownsRow bb e size v n xs := by
    intro e size n v xs ho he
    refine ownsRow_kept ho fun k hk => F.blk k (ho.lt k hk).2 fun o => ?_
    rcases ho.2 with ⟨h', _⟩ | ⟨g, cap, cur, h', hbs, hg, r⟩
    · rw [h'] at hk; simp [Value.ownBlock] at hk
    · rw [h'] at hk
      simp [Value.ownBlock] at hk
      subst hk
      have hs : w.shape? g = some (e, cur.size) := by simp [World.shape?, hg]
      exact hS g o cur.size hbs (by rcases he with rfl | rfl; exact Or.inl hs; exact Or.inr hs)
  refine ⟨(F.cell K 0 h.lt (hK 0)).trans h.c0, (F.cell K 1 h.lt (hK 1)).trans h.c1, (F.cell K 2 h.lt (hK 2)).trans h.c2, (F.shp K h.lt ⟨0, hK 0⟩).trans h.sh, fun o => (F.frz K o h.lt ⟨0, hK 0⟩).trans (h.fz o), h.hK,
    keep h.own0 (Or.inr rfl), keep h.own1 (Or.inl rfl), h.lcs, fun i hi => keep (h.chk i hi) (Or.inl rfl), h.nod, h.apt, h.cap⟩

theorem Frm.grown_new {w w' : World} {row : Option Nat} (h : w.grownBy w' row) (S : Nat → Nat → Prop) (hr : ∀ k, row = some k → w.heap.size ≤ k) : Frm w w' S :=
  Frm.of_block S h.os h.tape h.output h.size fun k hk _ => h.block k hk (fun e => by have := hr k e.symm; omega)

theorem Bk.grown {w w' : World} {bb K : Nat} {fs : List Nat} {cs : List (List Nat)} {t : List Nat} {vf vt : Value} {sp : Option Addr} (h : Bk w bb K fs cs t vf vt sp) {row : Option Nat} (hg : w.grownBy w' row) (hr : ∀ k, row = some k → w.heap.size ≤ k) : Bk w' bb K fs cs t vf vt sp := by
  have hb := h.lt
  have F : Frm w w' (fun k _ => w.heap.size ≤ k) := Frm.grown hg _ (fun k hk o => hr k hk)
  refine h.same F (fun o => by omega) ?_
  rintro k o m _ hs hle
  have : k < w.heap.size := by rcases hs with hs | hs <;> exact lt_of_shape hs
  omega

set_option maxHeartbeats 1000000 in
set_option maxRecDepth 100000 in
/-- makeRoom, the tail the only array and shorter than 255: it grows -/
theorem makeRoom_grow (bb K : Nat) (t : List Nat) (ao fa : Option Addr) (fc : Nat) (w : World) (h : Bk w bb K [] [] t (.slice fa 0 fc) (.slice ao t.length t.length) none) (hn : t.length < 255) (hbb : bb ≤ w.heap.size) :
    Calls Yba.prog 39 #[.pointer (some ⟨K, 0, none⟩)] w fun e w' => e = .returned (.tuple #[]) ∧ ∃ g c, Bk w' bb K [] [] t (.slice fa 0 fc) (.slice (some ⟨g, 0, none⟩) t.length c) none ∧ t.length < c ∧ Frm w w' (BS w bb K) := by
  have c0 := h.c0
  have c1 := h.c1
  have f1 := h.fz 1
  have hK := h.lt
  obtain ⟨i0, hi0, hz0, hz1, hz2⟩ := info_parts Yba.info28
  obtain ⟨m, hm, hm1, hm2⟩ : ∃ m : Nat, Hid (m = min (2 * t.length + 1) 255) ∧ t.length < m ∧ m ≤ 255 := ⟨_, rfl, by omega, by omega⟩
  have hnone : Hid (ao = none → t.length = 0 ∧ t.length = 0) := fun e => by
    rcases h.own1.2 with ⟨_, h'⟩ | ⟨g, cap, cur, h', _⟩
    · exact ⟨h', h'⟩
    · rw [e] at h'; simp at h'
  have hcl : Hid (∀ w', w.grownBy w' none → ∀ ad, ao = some ad → ∀ j u, (ptrs t)[j]? = some u → w'.cell? (ad.add j) = some u) := by
    intro w' hg ad hao j u hj
    rcases h.own1.2 with ⟨h', _⟩ | ⟨g, cap, cur, h', _⟩
    · simp at h'; rw [h'.1] at hao; cases hao
    · simp only [Value.slice.injEq, true_and] at h'
      obtain ⟨h1, h2⟩ := h'
      rw [hao] at h1
      cases h1
      have := (h.own1.kept hg (by rw [hao]; simp [Value.ownBlock])).cells (g := g) (by rw [hao]; rfl) j u hj
      exact this
  have fin : Hid (∀ w1 w2, w1.ownsRow bb 28 1 (.slice (some ⟨w.heap.size, 0, none⟩) 0 m) 0 [] → w.grownBy w1 none → w2.ownsRow bb 28 1 (.slice (some ⟨w.heap.size, 0, none⟩) (0 + t.length) m) (0 + t.length) ([] ++ ptrs t) → w1.grownBy w2 (some w.heap.size) →
      ∃ g c, Bk (w2.setCell ⟨K, 1, none⟩ (.slice (some ⟨w.heap.size, 0, none⟩) t.length m)) bb K [] [] t (.slice fa 0 fc) (.slice (some ⟨g, 0, none⟩) t.length c) none ∧ t.length < c ∧ Frm w (w2.setCell ⟨K, 1, none⟩ (.slice (some ⟨w.heap.size, 0, none⟩) t.length m)) (BS w bb K)) := by
    intro w1 w2 o1 g1 o2 g2
    rw [Nat.zero_add, List.nil_append] at o2
    have hgg : w.grownBy w2 (some w.heap.size) := ⟨g2.os.trans g1.os, g2.tape.trans g1.tape, g2.output.trans g1.output, Nat.le_trans g1.size g2.size, fun k hk hne => (g2.block k (Nat.lt_of_lt_of_le hk g1.size) hne).trans (g1.block k hk (by simp))⟩
    have hb := h.grown hgg (fun k hk => by simp at hk; omega)
    refine ⟨w.heap.size, m, hb.retail o2 (by simp) ?_, hm1, ?_⟩
    · intro a n c e
      simp at e
      exact ⟨by omega, fun h => absurd rfl h⟩
    · exact (Frm.grown_new hgg (BS w bb K) (fun k hk => by simp at hk; omega)).trans2 (Frm.setCell w2 K 1 _ (BS w bb K) (Or.inl ⟨rfl, by omega⟩)) (fun _ _ _ h => h)
  have kst : Hid (∀ w1 w2, w.grownBy w1 none → w1.grownBy w2 (some w.heap.size) → w2.cell? ⟨K, 1, none⟩ = some (.slice ao t.length t.length) ∧ w2.frozen? ⟨K, 1, none⟩ = false) := by
    intro w1 w2 g1 g2
    have hb : w2.heap[K]? = w.heap[K]? := (g2.block K (Nat.lt_of_lt_of_le hK g1.size) (by simp; omega)).trans (g1.block K hK (by simp))
    exact ⟨(World.cell?_of_block (a := ⟨K, 1, none⟩) hb).trans c1, (World.frozen?_of_block (a := ⟨K, 1, none⟩) hb).trans f1⟩
  by_cases h127 : 2 * t.length + 1 ≤ 255
  · have hmi : 2 * (t.length : Int) + 1 ≤ 255 := by omega
    have hme : Hid (m = 2 * t.length + 1) := by have := hm.out; exact (show m = 2 * t.length + 1 by omega)
    go_enter Yba.func39, Yba.ntmps39
    go_wp2_with (first | (at_make; refine wpList_make_own _ rfl _ _ 44 rfl bb 28 i0 (.pointer none) 1 Yba.underlying44 hi0 hz0 hz1 _ _ _ m rfl rfl (by have := hme.out; omega) (by rw [hz2]; omega) (by unfold maxLen; omega) hbb ?_; intro w1 o1 g1) | (at_builtin; refine wpList_append_fits_any _ rfl (.tmp 24) (.tmp 25) 44 rfl bb 28 i0 1 Yba.underlying44 hi0 hz1 w.heap.size 0 m [] rfl o1 ao t.length t.length (ptrs t) rfl (by simp [ptrs_length]) hnone.out (hcl.out _ g1) (ptrs_one _) (by omega) ?_; intro w2 o2 g2; obtain ⟨k1, k2⟩ := kst.out _ _ g1 g2))
    refine bodyPost_ret (results_none rfl _ _ _) rfl ?_
    exact ⟨rfl, fin.out _ _ o1 g1 o2 g2⟩
  · have hmi : 255 < 2 * (t.length : Int) + 1 := by omega
    have hme : Hid (m = 255) := by have := hm.out; exact (show m = 255 by omega)
    go_enter Yba.func39, Yba.ntmps39
    go_wp2_with (first | (at_make; refine wpList_make_own _ rfl _ _ 44 rfl bb 28 i0 (.pointer none) 1 Yba.underlying44 hi0 hz0 hz1 _ _ _ m rfl rfl (by have := hme.out; omega) (by rw [hz2]; omega) (by unfold maxLen; omega) hbb ?_; intro w1 o1 g1) | (at_builtin; refine wpList_append_fits_any _ rfl (.tmp 24) (.tmp 25) 44 rfl bb 28 i0 1 Yba.underlying44 hi0 hz1 w.heap.size 0 m [] rfl o1 ao t.length t.length (ptrs t) rfl (by simp [ptrs_length]) hnone.out (hcl.out _ g1) (ptrs_one _) (by omega) ?_; intro w2 o2 g2; obtain ⟨k1, k2⟩ := kst.out _ _ g1 g2))
    refine bodyPost_ret (results_none rfl _ _ _) rfl ?_
    exact ⟨rfl, fin.out _ _ o1 g1 o2 g2⟩
end Go.Proofs.Ybulkaeuq
