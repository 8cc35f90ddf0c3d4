/-
  push and put upon the heap of a queue ('HQ'). By the prover of seat b1537a.
-/
import Derived.Test.YbulkaeuqCut
import Derived.Test.YbulkaeuqLawA
namespace Go.Proofs.Ybulkaeuq
open Go.RowKit

/-- which old cells a push may turn -/
def PS (B ho : Nat) (v : Value) (L : List (Int × Nat)) (k o : Nat) : Prop := (k = B ∧ o = ho) ∨ some k = v.ownBlock ∨ (o = 2 ∧ ∃ t, (t, k) ∈ L)

theorem hq_push (base B ho p : Nat) (wh : Int) (v : Value) (es : List (Int × Nat)) (w : World) (q : HQ base B ho v es (fun _ => False) w) (hn : es.length < 10000000) (hbase : base ≤ w.heap.size) (hp : Nd w p wh) (hlo : base ≤ p) (hnew : ∀ t k, (t, k) ∈ es → k ≠ p) :
    Calls Yba.prog 8 #[.pointer (some ⟨B, ho, none⟩), .pointer (some ⟨p, 0, none⟩)] w fun r w' =>
      r = .returned (.tuple #[]) ∧ ∃ v' es', es'.Perm (es ++ [(wh, p)]) ∧ HQ base B ho v' es' (fun _ => False) w' ∧ Frm w w' (PS B ho v (es ++ [(wh, p)])) := by
  have hd : ((es ++ [(wh, p)]).map (·.2)).Nodup := by
    rw [List.map_append, List.nodup_append]
    refine ⟨q.nod, by simp, ?_⟩
    intro a ha b hb
    simp at hb
    subst hb
    obtain ⟨⟨t, k⟩, hm, rfl⟩ := List.mem_map.1 ha
    exact hnew t k hm
  refine (push_calls base B ho p wh v es w hn q.hv hbase q.ord q.np hp hd).mono ?_
  rintro r w' ⟨rfl, g, cap, es', p1, p2, p3, p4, p5, p6⟩
  refine ⟨rfl, _, es', p1, ⟨⟨p3.hdr, p3.own, p3.shB, p5⟩, p2, p4, perm_nodup p1 hd, ?_⟩, p6⟩
  intro t k h
  rw [p1.mem_iff, List.mem_append] at h
  rcases h with h | h
  · exact q.lo t k h
  · simp at h; omega

theorem PS.nd {B ho : Nat} {v : Value} {es : List (Int × Nat)} {base : Nat} {w : World} {x : Nat → Prop} (q : HQ base B ho v es x w) {p : Nat} {wh : Int} (hp : Nd w p wh) (L : List (Int × Nat)) : ¬ PS B ho v L p 0 := by
  rintro (⟨h, _⟩ | h | ⟨h, _⟩)
  · obtain ⟨t, m, h1, _, h2⟩ := q.hv.shB
    rw [← h, hp.shp] at h1; simp at h1; exact h2 h1.1.symm
  · exact q.hv.notP hp h
  · simp at h

set_option maxHeartbeats 1000000 in
set_option maxRecDepth 100000 in
theorem put_calls (base Q p : Nat) (wh : Int) (v : Value) (es : List (Int × Nat)) (w : World) (q : HQ base Q 2 v es (fun _ => False) w) (hn : es.length < 10000000) (hbase : base ≤ w.heap.size) (hp : Nd w p wh) (hlo : base ≤ p) (hnew : ∀ t k, (t, k) ∈ es → k ≠ p)
    (h0 : w.cell? ⟨Q, 0, none⟩ = some (.int .i64 0)) (h1 : 0 ≤ wh) (h2 : wh < 65536) :
    Calls Yba.prog 25 #[.pointer (some ⟨Q, 0, none⟩), .pointer (some ⟨p, 0, none⟩)] w fun r w' =>
      r = .returned (.int .i64 wh) ∧ ∃ v' es', es'.Perm (es ++ [(wh, p)]) ∧ HQ base Q 2 v' es' (fun _ => False) w' ∧ Frm w w' (PS Q 2 v (es ++ [(wh, p)])) := by
  have hpw := hp.when
  go_enter Yba.func25, Yba.ntmps25
  go_wp2_with fail
  refine (nearby_calls Q wh w h0 h1 h2).mono ?_
  rintro e w1 ⟨rfl, rfl⟩
  go_wp2_with fail
  refine (hq_push base Q 2 p wh v es _ q hn hbase hp hlo hnew).mono ?_
  rintro e w2 ⟨rfl, v', es', p1, p2, p3⟩
  have hpw2 : w2.cell? ⟨p, 0, none⟩ = some (.int .i64 wh) := (p3.cell p 0 hp.lt (PS.nd q hp _)).trans hpw
  go_wp2_with fail
  go_ret
  exact ⟨rfl, v', es', p1, p2, p3⟩
end Go.Proofs.Ybulkaeuq
