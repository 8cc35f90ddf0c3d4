/-
  (*run[int]).load walked, the run empty. By the prover of seat b1537a.
-/
import Derived.Test.YbulkaeuqLoadB
namespace Go.Proofs.Ybulkaeuq
open Go.RowKit

theorem z96 : Yba.zeroCells96.size = 256 := by kernel_rfl

/-- the bucket's tail is not empty where nodes are left -/
theorem MB.tail_pos {base bb Q W K : Nat} {mv : Int} {whole : Bool} {P : List (Int × Nat)} {w0 : World} {fs : List Nat} {cs : List (List Nat)} {t : List Nat} {vf vt : Value} {sp : Option Addr} {m c : Nat} {X : List (Int × Nat)} {w : World}
    (h : MB base bb Q W K mv whole P w0 fs cs t vf vt sp m c X w) (hm : 0 < m) (hP : m ≤ P.length) : 0 < t.length := by
  refine List.length_pos_iff.2 (fun e => ?_)
  have hfs : fs ≠ [] := by
    intro e2
    have : cs = [] := List.eq_nil_of_length_eq_zero (by rw [h.bk.lcs, e2]; rfl)
    have h2 := h.ns
    rw [e, this] at h2
    have := congrArg List.length h2
    simp at this
    omega
  exact h.ft hfs e

theorem Tk.drewN {base bb Q W K : Nat} {P : List (Int × Nat)} {w0 w : World} {B m : Nat} {T fs : List Nat} {cs : List (List Nat)} {t : List Nat} {vf vt : Value} {sp : Option Addr} {wr : World} (h : Tk base bb Q W K P w0 w B m T fs cs t vf vt sp wr) (q : Nat) : Tk base bb Q W K P w0 w B m T fs cs t vf vt sp (wr.drewN q) :=
  ⟨h.mb.drewN q, h.perm, h.buf.drewN q, h.kp.drewN q, ⟨h.run.c3, h.run.c4, h.run.c5, h.run.c6, h.run.c7⟩, h.le, h.hB⟩

/-- the tail as what append reads -/
theorem Tk.src {base bb Q W K : Nat} {P : List (Int × Nat)} {w0 w : World} {B m g cc : Nat} {T fs : List Nat} {cs : List (List Nat)} {t : List Nat} {vf : Value} {sp : Option Addr} {wr : World} (h : Tk base bb Q W K P w0 w B m T fs cs t vf (.slice (some ⟨g, 0, none⟩) t.length cc) sp wr) : Src Yba.prog 1 44 (.slice (some ⟨g, 0, none⟩) t.length cc) t.length (ptrs t) wr := by
  refine Src.ofSlice _ Yba.underlying44 _ _ _ _ (by rw [ptrs_length, Nat.mul_one]) ?_ (ptrs_one _)
  intro j u hj
  have hjl : j < t.length := by have := (List.getElem?_eq_some_iff.1 hj).1; rwa [ptrs_length] at this
  rw [Addr.add_lit, Nat.zero_add, ownsRow_ptr_cell h.mb.bk.own1 j hjl, ← hj, ptrs_get t j hjl]

theorem Tk.room {base bb Q W K : Nat} {P : List (Int × Nat)} {w0 w : World} {B m : Nat} {T fs : List Nat} {cs : List (List Nat)} {t : List Nat} {vf vt : Value} {sp : Option Addr} {wr : World} (h : Tk base bb Q W K P w0 w B m T fs cs t vf vt sp wr) (hl : T.length + t.length ≤ 256) :
    (∀ j, j < (ptrs t).length → (wr.cell? ⟨B, 0 + T.length + j, none⟩).isSome = true) ∧ (∀ j, j < (ptrs t).length → wr.frozen? ⟨B, 0 + T.length + j, none⟩ = false) := by
  refine ⟨fun j hj => ?_, fun j _ => h.buf.frz _⟩
  rw [ptrs_length] at hj
  obtain ⟨v, hv⟩ := cell_of_shape h.buf.shp (0 + T.length + j) (by omega)
  rw [hv]; rfl

/-- all nodes are taken -/
theorem Tk.nodes {base bb Q W K : Nat} {P : List (Int × Nat)} {w0 w : World} {B : Nat} {T fs : List Nat} {cs : List (List Nat)} {t : List Nat} {vf vt : Value} {sp : Option Addr} {wr : World} (h : Tk base bb Q W K P w0 w B 0 T fs cs t vf vt sp wr) :
    T.Perm (P.map (·.2)) ∧ ∀ p ∈ T, (∃ i, i < P.length ∧ p = nn P i) ∧ NdK wr B (key P) p := by
  have hp : T.Perm (P.map (·.2)) := by have := h.perm; rwa [List.drop_zero] at this
  refine ⟨hp, fun p hm => ?_⟩
  have h1 := hp.mem_iff.1 hm
  obtain ⟨e, he, rfl⟩ := List.mem_map.1 h1
  obtain ⟨i, hi, rfl⟩ := List.getElem_of_mem he
  rw [nn_get P i hi]
  refine ⟨⟨i, hi, rfl⟩, shape_ne (h.mb.nd i hi).shp h.buf.shp (by simp), ?_⟩
  rw [key_nn h.mb.nod hi]
  exact (h.mb.nd i hi).when

/-- what stands behind inOrder -/
structure Srt (base bb Q W K : Nat) (P : List (Int × Nat)) (w0 w : World) (B n : Nat) (l fs : List Nat) (cs : List (List Nat)) (t : List Nat) (vf vt : Value) (sp : Option Addr) (w2 : World) : Prop where
  mb : MB base bb Q W K 1 true P w0 fs cs t vf vt sp 0 0 [] w2
  kp : KP bb K w w2
  run : RunC Q (.slice none 0 0) 0 0 0 w2
  perm : l.Perm (P.map (·.2))
  ord : l.Pairwise (fun a b => key P a ≤ key P b)
  row : NRow w2 B l
  QB : Q ≠ B
  nB : ∀ o, ¬ RS Q P B o
  len : l.length = n
  plen : P.length = n

theorem Tk.sorted {base bb Q W K : Nat} {P : List (Int × Nat)} {w0 w : World} {B : Nat} {T fs : List Nat} {cs : List (List Nat)} {t : List Nat} {vf vt : Value} {sp : Option Addr} {wr w2 : World} (h : Tk base bb Q W K P w0 w B 0 T fs cs t vf vt sp wr) {l : List Nat} (hp : l.Perm T) (ho : l.Pairwise (fun a b => key P a ≤ key P b)) (hr : NRow w2 B l) (F : OnB B wr w2) :
    Srt base bb Q W K P w0 w B T.length l fs cs t vf vt sp w2 := by
  have QB : Q ≠ B := shape_ne h.mb.qs.shQ h.buf.shp (by simp)
  have hl := h.len
  refine ⟨h.mb.off F h.buf.shp (by have := h.mb.qs.hQ; have := h.mb.qs.Qb; have := h.hB; omega), h.kp.off F h.hB, h.run.frm F (fun o _ _ e => QB e), hp.trans h.nodes.1, ho, hr, QB, ?_, hp.length_eq, by omega⟩
  rintro o (⟨e, _⟩ | ⟨_, i, hi, e⟩)
  · exact QB e.symm
  · exact shape_ne (h.mb.nd i hi).shp h.buf.shp (by simp) e.symm

theorem Srt.drewN {base bb Q W K : Nat} {P : List (Int × Nat)} {w0 w : World} {B n : Nat} {l fs : List Nat} {cs : List (List Nat)} {t : List Nat} {vf vt : Value} {sp : Option Addr} {w2 : World} (h : Srt base bb Q W K P w0 w B n l fs cs t vf vt sp w2) (q : Nat) : Srt base bb Q W K P w0 w B n l fs cs t vf vt sp (w2.drewN q) :=
  ⟨h.mb.drewN q, h.kp.drewN q, ⟨h.run.c3, h.run.c4, h.run.c5, h.run.c6, h.run.c7⟩, h.perm, h.ord, h.row, h.QB, h.nB, h.len, h.plen⟩

/-- load's end: the count of live nodes and the last deadline are stored -/
theorem Srt.done {base bb Q W K : Nat} {P : List (Int × Nat)} {w0 w : World} {B n G cc : Nat} {l fs : List Nat} {cs : List (List Nat)} {t : List Nat} {vf vt : Value} {sp : Option Addr} {w2 wx : World} (h : Srt base bb Q W K P w0 w B n l fs cs t vf vt sp w2) (F : Frm w2 wx (RS Q P)) (hf : Fill Q G cc l n wx) (h1 : n ≤ cc) (h2 : cc ≤ 512) {v : Int} (hv : v = key P (l.getD (n - 1) 0)) :
    LPost base bb Q W K P w0 w (.returned (.bool true)) ((wx.setCell ⟨Q, 6, none⟩ (.int .i64 n)).setCell ⟨Q, 7, none⟩ (.int .i64 v)) := by
  have F2 : Frm w2 ((wx.setCell ⟨Q, 6, none⟩ (.int .i64 n)).setCell ⟨Q, 7, none⟩ (.int .i64 v)) (RS Q P) := (F.trans (Frm.setCell _ Q 6 _ (RS Q P) (Or.inl ⟨rfl, by omega, by omega⟩))).trans (Frm.setCell _ Q 7 _ (RS Q P) (Or.inl ⟨rfl, by omega, by omega⟩))
  have GQ : G ≠ Q := shape_ne hf.ring.shp (h.mb.run F).qs.shQ (by simp)
  refine ⟨fs, cs, t, vf, vt, sp, G, cc, l, rfl, h.mb.run F2, h.kp.run h.mb.qs.shQ h.mb.nd F2, h.perm, h.ord, ⟨?_, ?_, ?_, ?_, ?_⟩, by rw [h.plen]; exact h1, h2, ?_, ?_, GQ⟩
  · rw [World.cell?_setCell_other _ _ _ _ (by simp), World.cell?_setCell_other _ _ _ _ (by simp)]; exact hf.run.c3
  · rw [World.cell?_setCell_other _ _ _ _ (by simp), World.cell?_setCell_other _ _ _ _ (by simp)]; exact hf.run.c4
  · rw [World.cell?_setCell_other _ _ _ _ (by simp), World.cell?_setCell_other _ _ _ _ (by simp), h.plen]; exact hf.run.c5
  · rw [World.cell?_setCell_other _ _ _ _ (by simp), World.cell?_setCell_same _ _ _ hf.run.c6, h.plen]
  · have : (wx.setCell ⟨Q, 6, none⟩ (.int .i64 n)).cell? ⟨Q, 7, none⟩ = some (.int .i64 0) := by rw [World.cell?_setCell_other _ _ _ _ (by simp)]; exact hf.run.c7
    rw [World.cell?_setCell_same _ _ _ this, hv, h.plen]
  · intro j hj
    rw [h.plen] at hj
    rw [World.cell?_setCell_other _ _ _ _ (fun e => by simp only [Addr.mk.injEq, and_true] at e; omega), World.cell?_setCell_other _ _ _ _ (fun e => by simp only [Addr.mk.injEq, and_true] at e; omega)]
    exact hf.put j hj
  · intro j hj
    rw [h.plen] at hj
    rw [World.cell?_setCell_other _ _ _ _ (by simp), World.cell?_setCell_other _ _ _ _ (by simp)]
    exact hf.pos j hj

theorem Srt.node {base bb Q W K : Nat} {P : List (Int × Nat)} {w0 w : World} {B n : Nat} {l fs : List Nat} {cs : List (List Nat)} {t : List Nat} {vf vt : Value} {sp : Option Addr} {w2 : World} (h : Srt base bb Q W K P w0 w B n l fs cs t vf vt sp w2) {j : Nat} (hj : j < n) : ∃ i, i < P.length ∧ l.getD j 0 = nn P i := by
  have hm : l.getD j 0 ∈ l := by have := h.len; simp [show j < l.length by omega]
  obtain ⟨e, he, h2⟩ := List.mem_map.1 (h.perm.mem_iff.1 hm)
  obtain ⟨i, hi, rfl⟩ := List.getElem_of_mem he
  exact ⟨i, hi, by rw [← h2, nn_get P i hi]⟩

theorem Srt.nodup {base bb Q W K : Nat} {P : List (Int × Nat)} {w0 w : World} {B n : Nat} {l fs : List Nat} {cs : List (List Nat)} {t : List Nat} {vf vt : Value} {sp : Option Addr} {w2 : World} (h : Srt base bb Q W K P w0 w B n l fs cs t vf vt sp w2) : l.Nodup := (h.perm.nodup_iff).2 h.mb.nod

/-- the node at place j, while the ring is filled -/
theorem Srt.at {base bb Q W K : Nat} {P : List (Int × Nat)} {w0 w : World} {B n : Nat} {l fs : List Nat} {cs : List (List Nat)} {t : List Nat} {vf vt : Value} {sp : Option Addr} {w2 wx : World} (h : Srt base bb Q W K P w0 w B n l fs cs t vf vt sp w2) (F : Frm w2 wx (RS Q P)) {j : Nat} (hj : j < n) :
    wx.cell? ⟨B, j, none⟩ = some (pe (l.getD j 0)) ∧ wx.shape? (l.getD j 0) = some (30, 3) ∧ wx.frozen? ⟨l.getD j 0, 2, none⟩ = false ∧ wx.cell? ⟨l.getD j 0, 0, none⟩ = some (.int .i64 (key P (l.getD j 0))) := by
  obtain ⟨i, hi, e⟩ := h.node hj
  have m := (h.mb.run F).nd i hi
  refine ⟨(F.cell B j h.row.1 (h.nB j)).trans (h.row.2 j (by rw [h.len]; exact hj)).1, ?_, ?_, ?_⟩
  · rw [e]; exact m.shp
  · rw [e]; exact m.frz
  · rw [e, key_nn h.mb.nod hi]; exact m.when

set_option maxHeartbeats 4000000 in
set_option maxRecDepth 100000 in
theorem load_calls (base bb Q W K : Nat) (P : List (Int × Nat)) (w0 : World) (fs : List Nat) (cs : List (List Nat)) (t : List Nat) (vf vt : Value) (sp : Option Addr) (z : Int) (w : World)
    (h : MB base bb Q W K 1 true P w0 fs cs t vf vt sp P.length P.length [] w) (R : RunC Q (.slice none 0 0) 0 0 0 w) (h0 : 0 < P.length) (hP : P.length ≤ 256) (hwh : ∀ i, i < P.length → wn P i ≤ 9223372036854775807) :
    Calls Yba.prog 27 #[.pointer (some ⟨Q, 3, none⟩), .pointer (some ⟨K, 0, none⟩), .int .i64 z] w (LPost base bb Q W K P w0 w) := by
  have c6 := R.c6
  have start : Hid (∀ q, Tk base bb Q W K P w0 w w.heap.size P.length [] fs cs t vf vt sp ((w.drewN q).alloc (.cells Yba.zeroCells96 96))) := fun q => Tk.start h R q _ z96
  have HWH : Hid (∀ i, i < P.length → wn P i ≤ 9223372036854775807) := hwh
  clear h R hwh
  go_enter Yba.func27, Yba.ntmps27
  go_wp2_with fail
  go_quiet (fail)
  go_wp2_with fail
  go_quiet (fail)
  go_wp2_with fail
  obtain ⟨B, hB⟩ : ∃ B, w.heap.size = B := ⟨_, rfl⟩
  rw [hB]
  have start' := start.out
  rw [hB] at start'
  have START : Hid (∀ q, Tk base bb Q W K P w0 w B P.length [] fs cs t vf vt sp ((w.drewN q).alloc (.cells Yba.zeroCells96 96))) := start'
  clear start start'
  go_loopw [9, 10] (fun s9 s10 wr => ∃ (m : Nat) (T fs : List Nat) (cs : List (List Nat)) (t : List Nat) (vf vt : Value) (sp : Option Addr), s9 = .slice (some ⟨B, 0, none⟩) T.length 256 ∧ Tk base bb Q W K P w0 w B m T fs cs t vf vt sp wr) (fun s9 _ _ => 256 - (match s9 with | .slice _ k _ => k | _ => 0))
  case atStart => exact ⟨P.length, [], fs, cs, t, vf, vt, sp, rfl, START.out _⟩
  case round =>
    obtain ⟨m, T, fs, cs, t, vf, vt, sp, rfl, TK⟩ := hrel
    have hTm := TK.len
    obtain ⟨g1, g2, g3, g4⟩ := tail_get TK.mb.ns TK.le
    have g5 := flatten_len TK.mb.bk
    obtain ⟨fa, fc, rfl⟩ := TK.mb.bk.vf_form
    have hlM : (fs.length : Int) * 255 + (t.length : Int) = (m : Int) := by omega
    have hfl : fs.length < 900 := by omega
    obtain ⟨ao, cc, rfl⟩ : ∃ ao cc, vt = .slice ao t.length cc := by
      rcases TK.mb.bk.vt_room with ⟨h1, h2⟩ | ⟨g, c, h1, _⟩
      · exact ⟨none, 0, by rw [h1, h2]; rfl⟩
      · exact ⟨_, _, h1⟩
    by_cases hm0 : 0 < m
    · have htl := TK.mb.tail_pos hm0 (by omega)
      obtain ⟨g, c, hve, hc1, hc2, hc3⟩ : ∃ g c, Value.slice ao t.length cc = .slice (some ⟨g, 0, none⟩) t.length c ∧ t.length ≤ c ∧ c ≤ 255 ∧ (fs ≠ [] → c = 255) := by
        rcases TK.mb.bk.vt_room with ⟨h1, h2⟩ | h1
        · rw [h2] at htl; simp at htl
        · exact h1
      simp at hve
      obtain ⟨rfl, rfl⟩ := hve
      clear hc3 g2 g3 g4 g5
      go_wp2_with fail
      refine (len_calls K fa _ fs.length fc t.length cc _ TK.mb.bk.c0 TK.mb.bk.c1 (by omega) (by omega)).mono ?_
      rintro e w1 ⟨rfl, q, rfl⟩
      go_wp2_with fail
      refine (last_calls K g t.length cc 255 _ (TK.mb.drewN q).bk.c1 htl hc1 hc2 (by omega) (by omega)).mono ?_
      rintro e w1 ⟨rfl, q', rfl⟩
      rw [show t.length - 255 = 0 by omega, Nat.sub_zero, Nat.sub_zero]
      have TK1 : Hid (Tk base bb Q W K P w0 w B m T fs cs t (.slice fa fs.length fc) (.slice (some ⟨g, 0, none⟩) t.length cc) sp (wr.drewN (q + q'))) := TK.drewN (q + q')
      have bk2 : Hid (Bk ((wr.drewN (q + q')).setCells B T.length (ptrs t)) bb K fs cs t (.slice fa fs.length fc) (.slice (some ⟨g, 0, none⟩) t.length cc) sp ∧ bb ≤ ((wr.drewN (q + q')).setCells B T.length (ptrs t)).heap.size) := by
        have := (TK1.out.mb.off (frm_setCells B (ptrs t) (0 + T.length) _) TK1.out.buf.shp (by have := TK.mb.qs.hQ; have := TK.mb.qs.Qb; have := TK.hB; omega))
        rw [Nat.zero_add] at this
        exact ⟨this.bk, this.qs.bbl⟩
      clear TK
      go_wp2_with (at_builtin; refine wpList_append_room1 _ rfl (.tmp 55) (.tmp 56) 44 44 rfl 28 (.pointer none) 8 Yba.underlying44 Yba.info28 B 0 T.length 256 rfl _ rfl t.length (ptrs t) TK1.out.src (by omega) (TK1.out.room (by omega)).1 (TK1.out.room (by omega)).2 ?_)
      refine (cut_calls bb K g cc t.length fs cs t _ sp _ bk2.out.1 htl (Nat.le_refl _) hfl bk2.out.2).mono ?_
      rintro e w2 ⟨rfl, fs', cs', t', vf', g', c', sp', r1, r2, r3, r4⟩
      have TK2 := TK1.out.step hP r1 r2 r3 (by rw [Nat.zero_add]; exact r4)
      go_wp2_with fail
      go_roundw
      case rel => exact ⟨_, T ++ t, fs', cs', t', vf', _, sp', by simp, TK2⟩
      case measure => simp; omega
    · obtain rfl : m = 0 := by omega
      have hmd : decide (0 < 0) = false := rfl
      go_wp2_with fail
      refine (len_calls K fa _ fs.length fc t.length cc _ TK.mb.bk.c0 TK.mb.bk.c1 (by omega) (by omega)).mono ?_
      rintro e w1 ⟨rfl, q, rfl⟩
      go_wp2_with fail
      have TK1 : Hid (Tk base bb Q W K P w0 w B 0 T fs cs t (.slice fa fs.length fc) (.slice ao t.length cc) sp (wr.drewN q)) := TK.drewN q
      have hT0 : T.length = P.length := by omega
      clear TK g1 g2 g3 g4 g5 hlM
      refine (inOrder_calls B T (key P) _ TK1.out.buf.row (fun p hp => (TK1.out.nodes.2 p hp).2) (fun p hp => by obtain ⟨⟨i, hi, rfl⟩, _⟩ := TK1.out.nodes.2 p hp; rw [key_nn TK1.out.mb.nod hi]; exact HWH.out i hi) (by omega) (by omega)).mono ?_
      rintro e w2 ⟨rfl, l, o1, o2, o3, o4⟩
      have SR : Hid (Srt base bb Q W K P w0 w B T.length l fs cs t (.slice fa fs.length fc) (.slice ao t.length cc) sp w2) := TK1.out.sorted o1 o2 o3 o4
      clear TK1 o1 o2 o3 o4
      have hn1 : 0 < T.length := by omega
      have hn2 : T.length ≤ 256 := by omega
      obtain ⟨n, hn⟩ : ∃ n, T.length = n := ⟨_, rfl⟩
      rw [hn] at hn1 hn2 SR
      rw [hn]
      clear hn hTm hT0
      have c3 := SR.out.run.c3
      have c5 := SR.out.run.c5
      have c6 := SR.out.run.c6
      obtain ⟨cz, hcz⟩ : ∃ cz, 2 * n = cz := ⟨_, rfl⟩
      have hcc : (2 : Int) * (n : Int) = (cz : Int) := by omega
      have hc1 : n ≤ cz := by omega
      have hc2 : cz ≤ 512 := by omega
      clear hcz
      go_wp2_with fail
      go_quiet (fail)
      go_wp2_with fail
      have S1 : Hid (Srt base bb Q W K P w0 w B n l fs cs t (.slice fa fs.length fc) (.slice ao t.length cc) sp (w2.drewN nq)) := SR.out.drewN nq
      clear SR c3 c5 c6
      generalize w2.drewN nq = w2 at S1 ⊢
      refine (resize_calls Q cz _ S1.out.run S1.out.mb.qs.fzQ (by omega)).mono ?_
      rintro e w3 ⟨rfl, G, hG, z1, z2, z3⟩
      have hcl : Hid (∀ wx, Frm w2 wx (RS Q P) → Q ≠ G) := fun wx _ => by have := S1.out.mb.qs.ltQ; omega
      have HG : Hid (w2.heap.size ≤ G) := hG
      have F3 : Frm w2 w3 (RS Q P) := z3.mono (fun k o _ hk => Or.inl ⟨hk.1, by omega, by omega⟩)
      have QG : Q ≠ G := by have := S1.out.mb.qs.ltQ; omega
      have fl0 : Hid (Fill Q G cz l 0 w3 ∧ Frm w2 w3 (RS Q P)) := ⟨⟨z2, z1, fun t h => by omega, fun t h => by omega⟩, F3⟩
      clear z1 z2 z3 F3 hG hcl
      clear hcc
      go_wp2_with fail
      go_loopw [14, 15, 131] (fun _ _ s wx => ∃ i : Nat, s = .int .i64 i ∧ i ≤ n ∧ Fill Q G cz l i wx ∧ Frm w2 wx (RS Q P)) (fun _ _ s _ => n - (intOf s).toNat)
      case atStart => exact ⟨0, rfl, by omega, fl0.out.1, fl0.out.2⟩
      case round =>
        obtain ⟨i, rfl, hi, fl, fr⟩ := hrel
        have FL : Hid (Fill Q G cz l i wr) := fl
        have FR : Hid (Frm w2 wr (RS Q P)) := fr
        by_cases hin : i < n
        · obtain ⟨a1, a2, a3, a4⟩ := S1.out.at fr hin
          have hsQ := (S1.out.mb.run fr).qs.shQ
          obtain ⟨p, hp⟩ : ∃ p, l.getD i 0 = p := ⟨_, rfl⟩
          rw [hp] at a1 a2 a3 a4
          have HP : Hid (l.getD i 0 = p) := hp
          have Gp : G ≠ p := shape_ne fl.ring.shp a2 (by simp)
          have pQ : p ≠ Q := shape_ne a2 hsQ (by simp)
          obtain ⟨vg, hvg⟩ := cell_of_shape fl.ring.shp i (by omega)
          obtain ⟨vp, hvp⟩ := cell_of_shape a2 2 (by decide)
          have fG := fl.ring.frz i
          have f5 := (S1.out.mb.run fr).qs.fzQ 5
          have c3 := fl.run.c3
          have c4 := fl.run.c4
          have c5 := fl.run.c5
          have A2 : Hid (wr.shape? p = some (30, 3)) := a2
          have HSQ : Hid (wr.shape? Q = some (56, 76)) := hsQ
          clear hp a2 a4 hsQ fl fr
          unfold pe at a1
          go_wp2_with (first | (go_at_call 18; refine (slot_calls Q i cz cz _ _ c3 c4 (by omega) (by omega)).mono ?_; rintro e w4 ⟨rfl, rfl⟩) | (go_at_call 17; refine (at_calls 2 i _ (by omega) (by omega) (by omega) (by omega)).mono ?_; rintro e w4 ⟨rfl, rfl⟩))
          go_roundw
          case rel => exact ⟨i + 1, by go_num, by omega, FL.out.step (by rw [S1.out.len]; exact hin) HP.out A2.out HSQ.out (by omega) S1.out.nodup (fun t ht => (S1.out.at FR.out (by rw [S1.out.len] at ht; exact ht)).2.1), Fill.frm FR.out HG.out (by obtain ⟨j, h1, h2⟩ := S1.out.node hin; exact ⟨j, h1, by rw [← HP.out, h2]⟩)⟩
          case measure => simp [intOf]; omega
        · obtain rfl : i = n := by omega
          obtain ⟨j, rfl⟩ : ∃ j, i = j + 1 := ⟨i - 1, by omega⟩
          obtain ⟨a1, a2, a3, a4⟩ := S1.out.at fr (show j < j + 1 by omega)
          have hsQ := (S1.out.mb.run fr).qs.shQ
          obtain ⟨v, hv⟩ : ∃ v, key P (l.getD j 0) = v := ⟨_, rfl⟩
          rw [hv] at a4
          have HV : Hid (v = key P (l.getD (j + 1 - 1) 0)) := by rw [show j + 1 - 1 = j by omega, hv]; exact (rfl : v = v)
          obtain ⟨p, hp⟩ : ∃ p, l.getD j 0 = p := ⟨_, rfl⟩
          rw [hp] at a1 a2 a3 a4
          have pQ : p ≠ Q := shape_ne a2 hsQ (by simp)
          have BQ := S1.out.QB
          have c6 := fl.run.c6
          have c7 := fl.run.c7
          have f6 := (S1.out.mb.run fr).qs.fzQ 6
          have f7 := (S1.out.mb.run fr).qs.fzQ 7
          unfold pe at a1
          clear hp hv a2 a3 hsQ fl fr
          go_wp2_with fail
          go_ret
          exact S1.out.done FR.out FL.out hc1 hc2 HV.out
end Go.Proofs.Ybulkaeuq
