/-
  slices.SortFunc and slices.Reverse at a row of nodes; the closure that compares two nodes. By the prover of seat b1537a.
-/
import Derived.Test.YbulkaeuqShelfB
import Derived.Test.YbulkaeuqBase
namespace Go.Proofs.Ybulkaeuq
open Go.RowKit Go.Sort Go.Shelf Go.Lib

def pe (p : Nat) : Value := .pointer (some ⟨p, 0, none⟩)

/-- the row of nodes l at the head of the block B -/
def NRow (w : World) (B : Nat) (l : List Nat) : Prop := B < w.heap.size ∧ ∀ j, j < l.length → w.cell? ⟨B, j, none⟩ = some (pe (l.getD j 0)) ∧ w.frozen? ⟨B, j, none⟩ = false

/-- only the block B has turned -/
def OnB (B : Nat) (w w' : World) : Prop := Frm w w' (fun k _ => k = B)

theorem OnB.cell {B : Nat} {w w' : World} (h : OnB B w w') {p o : Nat} (hp : p ≠ B) {v : Value} (hc : w.cell? ⟨p, o, none⟩ = some v) : w'.cell? ⟨p, o, none⟩ = some v := (Frm.cell h p o (World.block_lt_of_cell? w _ hc) hp).trans hc
theorem OnB.refl (B : Nat) (w : World) : OnB B w w := Frm.refl _ _
theorem OnB.trans {B : Nat} {a b c : World} (h : OnB B a b) (k : OnB B b c) : OnB B a c := Frm.trans h k
theorem OnB.drewN (B : Nat) (w : World) (n : Nat) : OnB B w (w.drewN n) := Frm.drewN _ _ _

theorem onB_putRow {α : Type} [Inhabited α] (enc : α → Value) (w : World) (n B off : Nat) (d : Array α) : OnB B w (putRow enc (Sort.ahead w n) B off d) := by
  refine Frm.of_block _ rfl rfl rfl (by simp) ?_
  rintro k hk ⟨o, ho⟩
  simp only [putRow, mapBlock, Array.getElem?_modify, heap_ahead]
  rw [if_neg (fun e => ho e.symm)]

theorem onB_sortWorld {α : Type} [Inhabited α] (enc : α → Value) (w : World) (n B off : Nat) (d : Array α) (os : Array Obj) : OnB B w (sortWorld enc w B off n d os) := by
  have h := onB_putRow enc w n B off d
  refine h.trans ?_
  refine Frm.of_block _ rfl rfl rfl (by simp [sortWorld, Sort.grow]) ?_
  intro k hk _
  simp only [sortWorld, Sort.grow]
  rw [Array.getElem?_append_left hk]

/-- the node at p has the deadline f p -/
def NdK (w : World) (B : Nat) (f : Nat → Int) (p : Nat) : Prop := p ≠ B ∧ w.cell? ⟨p, 0, none⟩ = some (.int .i64 (f p))

theorem NdK.on {w w' : World} {B : Nat} {f : Nat → Int} {p : Nat} (h : NdK w B f p) (k : OnB B w w') : NdK w' B f p := ⟨h.1, k.cell h.1 h.2⟩

set_option maxHeartbeats 400000 in
theorem nan_calls (a : Int) (w : World) : Calls Yba.prog 51 #[.int .i64 a] w fun e w' => e = .returned (.bool false) ∧ w' = w := by
  go_enter Yba.func51, Yba.ntmps51
  go_wp2
  go_ret
  exact ⟨rfl, rfl⟩

set_option maxHeartbeats 400000 in
theorem compare_calls (a b : Int) (w : World) : Calls Yba.prog 60 #[.int .i64 a, .int .i64 b] w fun e w' => e = .returned (.int .i64 (Lib.compareInt a b)) ∧ w' = w := by
  by_cases h1 : a < b
  · go_enter Yba.func60, Yba.ntmps60
    go_wp2_with (first | (go_at_call 51; refine (nan_calls _ _).mono ?_; rintro e w' ⟨rfl, rfl⟩))
    go_ret
    exact ⟨by simp [Lib.compareInt, h1], rfl⟩
  · by_cases h2 : b < a
    · go_enter Yba.func60, Yba.ntmps60
      go_wp2_with (first | (go_at_call 51; refine (nan_calls _ _).mono ?_; rintro e w' ⟨rfl, rfl⟩))
      go_ret
      exact ⟨by simp [Lib.compareInt, h1, h2], rfl⟩
    · go_enter Yba.func60, Yba.ntmps60
      go_wp2_with (first | (go_at_call 51; refine (nan_calls _ _).mono ?_; rintro e w' ⟨rfl, rfl⟩))
      go_ret
      exact ⟨ret_int (by rw [Lib.compareInt, if_neg (by omega), if_neg (by omega)]), rfl⟩

set_option maxHeartbeats 400000 in
theorem closure_calls (p q : Nat) (a b : Int) (w : World) (hp : w.cell? ⟨p, 0, none⟩ = some (.int .i64 a)) (hq : w.cell? ⟨q, 0, none⟩ = some (.int .i64 b)) :
    Calls Yba.prog 59 #[pe p, pe q] w fun e w' => e = .returned (.int .i64 (Lib.compareInt a b)) ∧ ∃ n, w' = w.drewN n := by
  unfold pe
  have hcon := fun w => compare_calls a b w
  generalize Lib.compareInt a b = r at hcon ⊢
  go_enter Yba.func59, Yba.ntmps59
  go_wp2_with fail
  go_quiet ((go_at_call 60; exact Calls.quiet_of_same (hcon _)))
  go_wp2_with fail
  go_ret
  exact ⟨rfl, _, rfl⟩

theorem ltKey (x y : Int) : decide (Lib.compareInt x y < 0) = decide (x < y) := by
  unfold Lib.compareInt
  by_cases h1 : x < y
  · simp [h1]
  · by_cases h2 : y < x <;> simp [h1, h2]

/-- slices.SortFunc at the row of nodes -/
theorem sortF_calls (B cap : Nat) (l : List Nat) (f : Nat → Int) (w : World) (hR : NRow w B l) (hk : ∀ p ∈ l, NdK w B f p) (h0 : 0 < l.length) (hl : l.length ≤ 256) :
    Calls Yba.prog 58 #[.slice (some ⟨B, 0, none⟩) l.length cap, .func (.func 59) #[] #[]] w fun e w' => e = .returned (.tuple #[]) ∧ ∃ l', l'.Perm l ∧ l'.Pairwise (fun a b => f a ≤ f b) ∧ NRow w' B l' ∧ OnB B w w' := by
  let α := {p : Nat // NdK w B f p}
  obtain ⟨x0, hx0⟩ : ∃ x, x ∈ l := ⟨l[0], List.getElem_mem h0⟩
  haveI : Inhabited α := ⟨⟨x0, hk x0 hx0⟩⟩
  let enc : α → Value := fun x => pe x.1
  let cf : α → α → Int := fun x y => Lib.compareInt (f x.1) (f y.1)
  have hlt : ∀ x y : α, ltOf cf x y = decide (f x.1 < f y.1) := fun x y => ltKey (f x.1) (f y.1)
  have hO : SWO (ltOf cf) := ⟨fun x => by rw [hlt]; simp, fun x y z h1 h2 => by rw [hlt] at *; simp at *; omega, fun x y z h1 h2 => by rw [hlt] at *; simp at *; omega⟩
  let dl : List α := l.attachWith _ hk
  have hdl : dl.map (·.1) = l := List.attachWith_map_subtype_val _
  have hdn : dl.length = l.length := by rw [← hdl, List.length_map]
  have eg : ∀ args w, (callFunc 59 args).run Yba.prog w = .ok (.enter 59 args) w := enters_of Yba.func59 (by kernel_rfl) rfl
  have hcmp : CmpLays1 Yba.prog 59 #[] enc cf B 0 dl.toArray.size w := by
    intro m os dk hs x y
    have on := onB_sortWorld enc w m B 0 dk os
    refine (closure_calls x.1 y.1 (f x.1) (f y.1) _ (x.2.on on).2 (y.2.on on).2).mono ?_
    rintro e w' ⟨rfl, n, rfl⟩
    exact ⟨rfl, n, #[], by rw [grow_empty]⟩
  have hget : ∀ j (hj : j < dl.length), (dl[j]).1 = l.getD j 0 := by
    intro j hj
    have : (dl.map (·.1))[j]? = l[j]? := by rw [hdl]
    rw [List.getElem?_map, List.getElem?_eq_getElem hj] at this
    rw [List.getD_eq_getElem?_getD, ← this]
    rfl
  have hH : Holds enc w B 0 dl.toArray := by
    intro j hj
    have hj' : j < dl.length := by simpa using hj
    rw [Nat.zero_add, getElem!_pos dl.toArray j hj]
    have := hR.2 j (by omega)
    rw [← hget j hj'] at this
    simpa [enc] using this
  have hc := Any.slices_SortFunc Yba.sl58 enc (fun _ => rfl) cf hO 59 #[] B 0 cap dl.toArray w eg hcmp hH hR.1 (by simp; omega)
  change Calls Yba.prog 58 _ _ _ at hc
  rw [show dl.toArray.size = l.length by simpa using hdn] at hc
  refine hc.mono ?_
  rintro e w' ⟨rfl, d', n, os, ⟨hp1, _, hp3⟩, hs, rfl⟩
  have hds : d'.size = l.length := by rw [hp1]; simpa using hdn
  have hperm : d'.toList.Perm dl := by
    have e1 : (d'.extract 0 l.length).toList = d'.toList := by rw [← hds]; simp
    have e2 : (dl.toArray.extract 0 l.length).toList = dl := by rw [← hdn]; simp
    rw [e1, e2] at hp3
    exact hp3
  refine ⟨rfl, d'.toList.map (·.1), ?_, ?_, ⟨?_, ?_⟩, onB_sortWorld _ _ _ _ _ _ _⟩
  · rw [← hdl]; exact hperm.map _
  · rw [List.pairwise_map, List.pairwise_iff_getElem]
    intro i j hi hj hij
    simp only [Array.length_toList] at hi hj
    have := hs i j (Nat.zero_le _) hij (by omega)
    rw [hlt, getElem!_pos d' i hi, getElem!_pos d' j hj] at this
    simp at this
    simpa using this
  · exact lt_sortWorld _ _ _ _ _ _ _ hR.1
  · intro j hj
    have hj' : j < d'.size := by simpa using hj
    have := holds_sortWorld enc w B 0 n dl.toArray d' os hR.1 hH (by rw [hp1]) j hj'
    rw [Nat.zero_add, getElem!_pos d' _ hj'] at this
    simpa [enc, hj'] using this

/-- slices.Reverse at a part of the row of nodes -/
theorem rev_calls (B cap s : Nat) (xs ys zs : List Nat) (w : World) (hR : NRow w B (xs ++ ys ++ zs)) (hs : s = xs.length) (hl : ys.length ≤ 256) :
    Calls Yba.prog 61 #[.slice (some ⟨B, s, none⟩) ys.length cap] w fun e w' => e = .returned (.tuple #[]) ∧ NRow w' B (xs ++ ys.reverse ++ zs) ∧ OnB B w w' := by
  subst hs
  have hH : Holds pe w B xs.length ys.toArray := by
    intro j hj
    have hj' : j < ys.length := by simpa using hj
    have := hR.2 (xs.length + j) (by simp; omega)
    rw [getElem!_pos ys.toArray _ hj]
    simpa [List.getElem?_append_left, List.getElem?_append_right, hj'] using this
  have hc := AnyE.slices_Reverse Yba.sl61 pe (fun _ => rfl) B xs.length cap ys w hH (by omega)
  change Calls Yba.prog 61 _ _ _ at hc
  refine hc.mono ?_
  rintro e w' ⟨rfl, n, rfl⟩
  refine ⟨rfl, ⟨by simpa using hR.1, ?_⟩, onB_putRow _ _ _ _ _ _⟩
  intro j hj
  have hlen : j < (xs ++ ys ++ zs).length := by simpa using hj
  have h0 := hR.2 j hlen
  refine ⟨?_, by simpa using h0.2⟩
  by_cases h1 : j < xs.length
  · rw [cell?_putRow_other _ _ _ _ _ _ (Or.inr (Or.inl h1))]
    have := h0.1
    simpa [List.append_assoc, List.getElem?_append_left, h1] using this
  · by_cases h2 : j < xs.length + ys.length
    · obtain ⟨t, rfl⟩ : ∃ t, j = xs.length + t := ⟨j - xs.length, by omega⟩
      have := (holds_putRow pe (Sort.ahead w n) B xs.length ys.toArray ys.reverse.toArray hH (by simp)) t (by simp; omega)
      rw [this.1, getElem!_pos ys.reverse.toArray _ (by simp; omega)]
      simp [List.getElem?_append_left, List.getElem?_append_right, show t < ys.length by omega]
    · rw [cell?_putRow_other _ _ _ _ _ _ (Or.inr (Or.inr (by simp; omega)))]
      have := h0.1
      rw [List.getD_eq_getElem?_getD, List.getElem?_append_right (by simp; omega)] at this ⊢
      simpa using this
end Go.Proofs.Ybulkaeuq
