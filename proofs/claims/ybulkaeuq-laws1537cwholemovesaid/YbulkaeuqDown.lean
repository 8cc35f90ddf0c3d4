/-
  The contract of (*heap[int]).down. By the prover of seat b1537a.
-/
import Derived.Test.YbulkaeuqPush
namespace Go.Proofs.Ybulkaeuq
open Go.RowKit

theorem Hole.alloc {L0 : List (Int × Nat)} {e : Int × Nat} {base B ho g cap : Nat} {w1 : World} {h : Nat} {es : List (Int × Nat)} {w : World} (R : Hole L0 e base B ho g cap w1 h es w) (o : Obj) :
    Hole L0 e base B ho g cap w1 h es (w.alloc o) := by
  have F := Frm.alloc w o (fun _ _ => False)
  exact ⟨R.hh, R.len, R.perm, R.st.frm F (fun h => h) (fun _ h => h), fun k h1 h2 => ⟨(R.np k h1 h2).1.frm F (fun h => h), (F.cell _ _ (R.np k h1 h2).1.lt (fun h => h)).trans (R.np k h1 h2).2⟩, R.nd.frm F (fun h => h), R.frm.trans (Frm.alloc _ _ _)⟩

/-- the search for the least child: of the children f .. f + k the one at l is the least -/
structure InRel (L0 : List (Int × Nat)) (e : Int × Nat) (base B ho g cap : Nat) (w1 : World) (h : Nat) (er : List (Int × Nat)) (f k l : Nat) (wx : World) : Prop where
  lo : f ≤ l
  hi : l < f + 1 + k
  least : ∀ j, f ≤ j → j < f + 1 + k → wn er l ≤ wn er j
  hole : Hole L0 e base B ho g cap w1 h er wx

section
variable {L0 : List (Int × Nat)} {e : Int × Nat} {base B ho g cap : Nat} {w1 : World} {h : Nat} {er : List (Int × Nat)} {f k l : Nat} {wx : World}
theorem InRel.start (R : Hole L0 e base B ho g cap w1 h er wx) : InRel L0 e base B ho g cap w1 h er f 0 f wx :=
  ⟨Nat.le_refl _, by omega, fun j h1 h2 => by rw [show j = f by omega]; exact Int.le_refl _, R⟩
theorem InRel.lower (X : InRel L0 e base B ho g cap w1 h er f k l wx) (hlt : wn er (f + 1 + k) < wn er l) {wy : World} (R : Hole L0 e base B ho g cap w1 h er wy) : InRel L0 e base B ho g cap w1 h er f (k + 1) (f + 1 + k) wy :=
  ⟨by omega, by omega, fun j h1 h2 => by
    by_cases e1 : j = f + 1 + k
    · rw [e1]; exact Int.le_refl _
    · have := X.least j h1 (by omega); omega, R⟩
theorem InRel.keep (X : InRel L0 e base B ho g cap w1 h er f k l wx) (hlt : wn er l ≤ wn er (f + 1 + k)) {wy : World} (R : Hole L0 e base B ho g cap w1 h er wy) : InRel L0 e base B ho g cap w1 h er f (k + 1) l wy :=
  ⟨X.lo, by have := X.hi; omega, fun j h1 h2 => by
    by_cases e1 : j = f + 1 + k
    · rw [e1]; exact hlt
    · exact X.least j h1 (by omega), R⟩
theorem InRel.child (X : InRel L0 e base B ho g cap w1 h er f k l wx) {m : Nat} (hm : m < er.length) : wx.cell? ⟨g, m * 2, none⟩ = some (.int .i64 (wn er m)) ∧ wx.cell? ⟨g, m * 2 + 1, none⟩ = some (.pointer (some ⟨nn er m, 0, none⟩)) :=
  ⟨X.hole.st.even m hm, X.hole.st.odd m hm⟩
end

set_option maxHeartbeats 1000000 in
set_option maxRecDepth 100000 in
theorem down_calls (L0 : List (Int × Nat)) (e : Int × Nat) (base B ho g cap i : Nat) (es : List (Int × Nat)) (w : World) (hn : es.length < 10000000) (hd : (L0.map (·.2)).Nodup)
    (I : DnInv L0 es i i e) (H : HeapSt w base B ho g cap es) (hN : ∀ k, k < es.length → k ≠ i → NP w es k) (hNe : Nd w e.2 e.1) (hL : ∀ t k, (t, k) ∈ L0 → k < w.heap.size) :
    Calls Yba.prog 10 #[.pointer (some ⟨B, ho, none⟩), .int .i64 i, .agg #[.int .i64 e.1, .pointer (some ⟨e.2, 0, none⟩)]] w fun r w' =>
      r = .returned (.tuple #[]) ∧ ∃ es', es'.Perm L0 ∧ Ord es' (fun k => k = i) ∧ HeapSt w' base B ho g cap es' ∧ (∀ k, k < es'.length → NP w' es' k) ∧ Frm w w' (HS g L0) := by
  have hg := H.ltg
  have hB := H.ltB
  have hhd0 := H.hdr
  have hcap : es.length ≤ cap ∧ cap ≤ maxLen := by
    rcases H.own.2 with ⟨h, _⟩ | ⟨g', cap', cur, h, _, _, h1, h2, _⟩
    · simp at h
    · simp at h; rw [h.2]; exact ⟨h1, h2⟩
  obtain ⟨hcap, hcap2⟩ := hcap
  unfold maxLen at hcap2
  obtain ⟨e1, e2⟩ := e
  go_enter Yba.func10, Yba.ntmps10
  go_wp2
  go_loopw [1] (fun i' wr => ∃ (h : Nat) (er : List (Int × Nat)), i' = .int .i64 h ∧ DnInv L0 er i h (e1, e2) ∧ Hole L0 (e1, e2) base B ho g cap (w.alloc (.cells #[.int .i64 e1, .pointer (some ⟨e2, 0, none⟩)] 32)) h er wr) (fun i _ => es.length - (intOf i).toNat)
  case atStart =>
    refine ⟨i, es, rfl, I, I.hh, I.len, I.perm, H.frm (Frm.alloc _ _ (fun _ _ => False)) (fun h => h) (fun _ h => h), fun k h1 h2 => ?_, hNe.frm (Frm.alloc _ _ (fun _ _ => False)) (fun h => h), Frm.refl _ _⟩
    obtain ⟨n1, n2⟩ := hN k h1 h2
    exact ⟨n1.frm (Frm.alloc _ _ (fun _ _ => False)) (fun h => h), (World.cell?_alloc_lt _ _ _ n1.lt).trans n2⟩
  case round =>
    obtain ⟨h, er, rfl, J, R⟩ := hrel
    have hbox := R.box hg hL
    obtain ⟨b0, b1⟩ := hbox
    have hlen : er.length = es.length := by rw [R.len, ← I.len]
    have hhd := R.st.hdr
    have hhl := R.hh
    rw [hlen] at hhl hhd
    have HL : Hid (er.length = es.length) := hlen
    clear hlen
    by_cases hf : 4 * h + 1 < es.length
    · have hev := R.st.even (4 * h + 1) (by rw [HL.out]; exact hf)
      have hod := R.st.odd (4 * h + 1) (by rw [HL.out]; exact hf)
      obtain ⟨f, hfe⟩ : ∃ f, f = 4 * h + 1 := ⟨_, rfl⟩
      have hfi : (h : Int) * 4 + 1 = (f : Int) := by omega
      rw [← hfe] at hev hod hf
      have HF : Hid (f = 4 * h + 1) := hfe
      clear hfe
      by_cases hm4 : f + 4 ≤ es.length
      · have hmi : (f : Int) + 4 ≤ (es.length : Int) := by omega
        have hc1 : ¬ cap = f + 1 := by omega
        go_wp2_with fail
        go_quiet (fail)
        go_wp2_with fail
        simp only [show f + 4 - (f + 1) = 3 from by omega]
        go_loopw [39, 8, 9] (fun c l x wx => ∃ k l' : Nat, c = .int .i64 k ∧ l = .int .i64 l' ∧ x = .int .i64 (wn er l') ∧ k ≤ 3 ∧ InRel L0 (e1, e2) base B ho g cap (w.alloc (.cells #[.int .i64 e1, .pointer (some ⟨e2, 0, none⟩)] 32)) h er f k l' wx) (fun c _ _ _ => 3 - (intOf c).toNat)
        case atStart => exact ⟨0, f, rfl, rfl, rfl, by omega, InRel.start (R.drewN _)⟩
        case round =>
          obtain ⟨k, l, rfl, rfl, rfl, hk, X⟩ := hrel
          obtain ⟨d0, d1⟩ := X.hole.box hg hL
          have hlo := X.lo
          have hhi := X.hi
          by_cases hk3 : k < 3
          · obtain ⟨xev, xod⟩ := X.child (m := f + 1 + k) (by rw [HL.out]; omega)
            rw [show (f + 1 + k) * 2 = (f + 1) * 2 + k * 2 by omega] at xev xod
            by_cases hlt : wn er (f + 1 + k) < wn er l
            · go_wp2_with fail
              go_quiet (fail)
              go_wp2_with fail
              go_roundw
              case rel => exact ⟨k + 1, f + 1 + k, by go_num, by go_num, rfl, by omega, X.lower hlt (X.hole.alloc _ |>.drewN _)⟩
              case measure => simp [intOf]; omega
            · go_wp2_with fail
              go_roundw
              case rel => exact ⟨k + 1, l, by go_num, rfl, rfl, by omega, X.keep (by omega) (X.hole.alloc _)⟩
              case measure => simp [intOf]; omega
          · have hlast : Hid (∀ c, 0 < c → c < er.length → par c = h → wn er l ≤ wn er c) := fun c hc hcl hpc => X.least c (by have := (par_iff c h hc).1 hpc; have := HF.out; omega) (by have := (par_iff c h hc).1 hpc; have := HF.out; rw [HL.out] at hcl; omega)
            have hll : l < es.length := by omega
            obtain ⟨xev, xod⟩ := X.child (m := l) (by rw [HL.out]; omega)
            by_cases hle : e1 ≤ wn er l
            · go_wp2_with fail
              refine (set_calls base B ho g cap h e2 e1 er _ X.hole.st X.hole.hh (by rw [HL.out]; omega) X.hole.nd).mono ?_
              rintro r w' ⟨rfl, H', hp', F⟩
              go_wp2_with fail
              go_end0
              obtain ⟨q1, q2⟩ := X.hole.stop hd hp' F
              obtain ⟨q3, q4⟩ := J.stop (fun k hk hkl hpk => Int.le_trans hle (hlast.out k hk hkl hpk))
              exact ⟨rfl, _, q3, q4, H', q1, (Frm.alloc _ _ _).trans q2⟩
            · have hlh : h < l := by have := HF.out; omega
              have hpl : Hid (par l = h) := (par_iff l h (by omega)).2 (by have := HF.out; omega)
              have HLL : l < er.length := by rw [HL.out]; omega
              go_wp2_with fail
              refine (set_calls base B ho g cap h (nn er l) (wn er l) er _ X.hole.st X.hole.hh (by rw [HL.out]; omega) (X.hole.np l HLL (by omega)).1).mono ?_
              rintro r w' ⟨rfl, H', hp', F⟩
              go_wp2_with fail
              go_roundw
              case rel => exact ⟨l, er.set h (wn er l, nn er l), rfl, J.step HLL (by omega) hpl.out hlast.out (show wn er l < e1 by omega), X.hole.step hd l HLL (by omega) H' hp' F⟩
              case measure => simp [intOf]; omega
      · by_cases hc1 : cap = f + 1
        · subst hc1
          go_wp2_with fail
          go_quiet (fail)
          go_wp2_with fail
          go_loopw [39, 8, 9] (fun c l x wx => ∃ k l' : Nat, c = .int .i64 k ∧ l = .int .i64 l' ∧ x = .int .i64 (wn er l') ∧ k ≤ (es.length - (f + 1)) ∧ InRel L0 (e1, e2) base B ho g (f + 1) (w.alloc (.cells #[.int .i64 e1, .pointer (some ⟨e2, 0, none⟩)] 32)) h er f k l' wx) (fun c _ _ _ => (es.length - (f + 1)) - (intOf c).toNat)
          case atStart => exact ⟨0, f, rfl, rfl, rfl, by omega, InRel.start (R.drewN _)⟩
          case round =>
            obtain ⟨k, l, rfl, rfl, rfl, hk, X⟩ := hrel
            obtain ⟨d0, d1⟩ := X.hole.box hg hL
            have hlo := X.lo
            have hhi := X.hi
            by_cases hk3 : k < (es.length - (f + 1))
            · omega
            · have hlast : Hid (∀ c, 0 < c → c < er.length → par c = h → wn er l ≤ wn er c) := fun c hc hcl hpc => X.least c (by have := (par_iff c h hc).1 hpc; have := HF.out; omega) (by have := (par_iff c h hc).1 hpc; have := HF.out; rw [HL.out] at hcl; omega)
              have hll : l < es.length := by omega
              obtain ⟨xev, xod⟩ := X.child (m := l) (by rw [HL.out]; omega)
              by_cases hle : e1 ≤ wn er l
              · go_wp2_with fail
                refine (set_calls base B ho g (f + 1) h e2 e1 er _ X.hole.st X.hole.hh (by rw [HL.out]; omega) X.hole.nd).mono ?_
                rintro r w' ⟨rfl, H', hp', F⟩
                go_wp2_with fail
                go_end0
                obtain ⟨q1, q2⟩ := X.hole.stop hd hp' F
                obtain ⟨q3, q4⟩ := J.stop (fun k hk hkl hpk => Int.le_trans hle (hlast.out k hk hkl hpk))
                exact ⟨rfl, _, q3, q4, H', q1, (Frm.alloc _ _ _).trans q2⟩
              · have hlh : h < l := by have := HF.out; omega
                have hpl : Hid (par l = h) := (par_iff l h (by omega)).2 (by have := HF.out; omega)
                have HLL : l < er.length := by rw [HL.out]; omega
                go_wp2_with fail
                refine (set_calls base B ho g (f + 1) h (nn er l) (wn er l) er _ X.hole.st X.hole.hh (by rw [HL.out]; omega) (X.hole.np l HLL (by omega)).1).mono ?_
                rintro r w' ⟨rfl, H', hp', F⟩
                go_wp2_with fail
                go_roundw
                case rel => exact ⟨l, er.set h (wn er l, nn er l), rfl, J.step HLL (by omega) hpl.out hlast.out (show wn er l < e1 by omega), X.hole.step hd l HLL (by omega) H' hp' F⟩
                case measure => simp [intOf]; omega
        · go_wp2_with fail
          go_quiet (fail)
          go_wp2_with fail
          go_loopw [39, 8, 9] (fun c l x wx => ∃ k l' : Nat, c = .int .i64 k ∧ l = .int .i64 l' ∧ x = .int .i64 (wn er l') ∧ k ≤ (es.length - (f + 1)) ∧ InRel L0 (e1, e2) base B ho g cap (w.alloc (.cells #[.int .i64 e1, .pointer (some ⟨e2, 0, none⟩)] 32)) h er f k l' wx) (fun c _ _ _ => (es.length - (f + 1)) - (intOf c).toNat)
          case atStart => exact ⟨0, f, rfl, rfl, rfl, by omega, InRel.start (R.drewN _)⟩
          case round =>
            obtain ⟨k, l, rfl, rfl, rfl, hk, X⟩ := hrel
            obtain ⟨d0, d1⟩ := X.hole.box hg hL
            have hlo := X.lo
            have hhi := X.hi
            by_cases hk3 : k < (es.length - (f + 1))
            · obtain ⟨xev, xod⟩ := X.child (m := f + 1 + k) (by rw [HL.out]; omega)
              rw [show (f + 1 + k) * 2 = (f + 1) * 2 + k * 2 by omega] at xev xod
              by_cases hlt : wn er (f + 1 + k) < wn er l
              · go_wp2_with fail
                go_quiet (fail)
                go_wp2_with fail
                go_roundw
                case rel => exact ⟨k + 1, f + 1 + k, by go_num, by go_num, rfl, by omega, X.lower hlt (X.hole.alloc _ |>.drewN _)⟩
                case measure => simp [intOf]; omega
              · go_wp2_with fail
                go_roundw
                case rel => exact ⟨k + 1, l, by go_num, rfl, rfl, by omega, X.keep (by omega) (X.hole.alloc _)⟩
                case measure => simp [intOf]; omega
            · have hlast : Hid (∀ c, 0 < c → c < er.length → par c = h → wn er l ≤ wn er c) := fun c hc hcl hpc => X.least c (by have := (par_iff c h hc).1 hpc; have := HF.out; omega) (by have := (par_iff c h hc).1 hpc; have := HF.out; rw [HL.out] at hcl; omega)
              have hll : l < es.length := by omega
              obtain ⟨xev, xod⟩ := X.child (m := l) (by rw [HL.out]; omega)
              by_cases hle : e1 ≤ wn er l
              · go_wp2_with fail
                refine (set_calls base B ho g cap h e2 e1 er _ X.hole.st X.hole.hh (by rw [HL.out]; omega) X.hole.nd).mono ?_
                rintro r w' ⟨rfl, H', hp', F⟩
                go_wp2_with fail
                go_end0
                obtain ⟨q1, q2⟩ := X.hole.stop hd hp' F
                obtain ⟨q3, q4⟩ := J.stop (fun k hk hkl hpk => Int.le_trans hle (hlast.out k hk hkl hpk))
                exact ⟨rfl, _, q3, q4, H', q1, (Frm.alloc _ _ _).trans q2⟩
              · have hlh : h < l := by have := HF.out; omega
                have hpl : Hid (par l = h) := (par_iff l h (by omega)).2 (by have := HF.out; omega)
                have HLL : l < er.length := by rw [HL.out]; omega
                go_wp2_with fail
                refine (set_calls base B ho g cap h (nn er l) (wn er l) er _ X.hole.st X.hole.hh (by rw [HL.out]; omega) (X.hole.np l HLL (by omega)).1).mono ?_
                rintro r w' ⟨rfl, H', hp', F⟩
                go_wp2_with fail
                go_roundw
                case rel => exact ⟨l, er.set h (wn er l, nn er l), rfl, J.step HLL (by omega) hpl.out hlast.out (show wn er l < e1 by omega), X.hole.step hd l HLL (by omega) H' hp' F⟩
                case measure => simp [intOf]; omega
    · go_wp2_with fail
      refine (set_calls base B ho g cap h e2 e1 er wr R.st R.hh (by rw [HL.out]; omega) R.nd).mono ?_
      rintro r w' ⟨rfl, H', hp', F⟩
      go_wp2_with fail
      go_end0
      obtain ⟨q1, q2⟩ := R.stop hd hp' F
      obtain ⟨q3, q4⟩ := J.stop (fun k hk hkl hpk => by rw [HL.out] at hkl; have := (par_iff k h hk).1 hpk; omega)
      exact ⟨rfl, _, q3, q4, H', q1, (Frm.alloc _ _ _).trans q2⟩
end Go.Proofs.Ybulkaeuq
