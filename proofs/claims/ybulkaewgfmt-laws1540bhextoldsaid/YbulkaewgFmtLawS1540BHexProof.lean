/-
  LawS1540BHex: the lift and the card. By the prover of seat b1540aF.
-/
import Derived.Test.YbulkaewgFmtCards
import Derived.Test.YbulkaewgFmtTie
import Derived.Test.YbulkaewgFmtHexWalk
import Derived.Test.YbulkaewgFmtLaidAll
import Derived.Test.YbulkaewgFmtStart
import Derived.SevenTiedAt
namespace Go.Proofs.YbulkaewgFmt.lawS1540BHex
open Go.ChangeShapes Go.WideShapes Go.ChangeAt Go.RowKit Go.Stop Go.Extern.Stop Go.Extern

theorem own : ownKnob Ybaf.prog.godebug = none := by kernel_rfl
theorem laidOut : laidOutB Ybaf.prog = true := by kernel_rfl

theorem two_of {H : Type} {enc : TypeId × Value → H} {P : Program} {W : World} {sp : Nat → Bool} {n1 n2 : String} {gs : List (DataW H)} {q : List MemPlace} (h : DataW.TrodVars enc P W sp [n1, n2] gs q) : ∃ y1 y2, gs = [y1, y2] := by
  cases gs with
  | nil => exact h.elim
  | cons y1 r =>
    obtain ⟨_, _, _, _, _, _, _, _, _, _, h', _⟩ := h
    cases r with
    | nil => exact h'.elim
    | cons y2 r =>
      obtain ⟨_, _, _, _, _, _, _, _, _, _, h'', _⟩ := h'
      cases r with
      | nil => exact ⟨y1, y2, rfl⟩
      | cons _ _ => exact h''.elim

set_option maxRecDepth 100000 in
set_option maxHeartbeats 1000000 in
theorem lifted (os : Os) (started : os.Started) (H : Type) (enc : TypeId × Value → H) :
    ReturnsInTold none {} Ybaf.checked os 4 .any Input.okWide ((OpenSpec.ofChange Rows.lawS1540BHexSpec).preRow enc Ybaf.prog Ybaf.f4 [] false Rows.lawS1540BHexRow.laid) (fun F => ((OpenSpec.ofChange Rows.lawS1540BHexSpec).at F).post enc Ybaf.prog Ybaf.f4 false true false false) (aloneAtReturn Ybaf.prog) nothingAlways := by
  refine returnsInTold_of_row (C := Ybaf.checked) (s := OpenSpec.ofChange Rows.lawS1540BHexSpec) (by kernel_rfl) own started (by kernel_rfl) Ybaf.func4
    (OpenSpec.witness_stopped_at (enc := enc) (C := Ybaf.checked) false (laidWorldOf Ybaf.prog os) #[.int .u16 0, .int .u8 0, .int .u8 0, .int .u8 0] rfl (by kernel_rfl) (by kernel_rfl) (by kernel_rfl)
      (OpenSpec.preRow_of_B rfl 8 (by kernel_rfl) (by kernel_rfl) (laid_met os _))) ?_
  intro F W base args ds gs before _ hF hval0 hW _ _ _ hL _
  have hval : ∀ (j : Nat) t v, Ybaf.f4.params[j]? = some t → args[j]? = some v → Value.okWide Ybaf.prog W .any base t v := hval0
  have hW' := hW
  obtain ⟨p, q, hA0, hV, rfl, hfz, hnd⟩ := hW
  have hA : DataW.TrodAll enc Ybaf.prog W 0 (fun _ => true) true Ybaf.f4.params.toList args.toList ds p := hA0
  rw [Ybaf.params4] at hA hval
  obtain ⟨v0, vs0, d0, ds0, p0, q0, hargs, rfl, rfl, h0, r0⟩ := trodAll_cons hA
  obtain ⟨v1, vs1, d1, ds1, p1, q1, rfl, rfl, rfl, h1, r1⟩ := trodAll_cons r0
  obtain ⟨v2, vs2, d2, ds2, p2, q2, rfl, rfl, rfl, h2, r2⟩ := trodAll_cons r1
  obtain ⟨v3, vs3, d3, ds3, p3, q3, rfl, rfl, rfl, h3, r3⟩ := trodAll_cons r2
  obtain ⟨rfl, rfl, rfl⟩ := trodAll_nil r3
  obtain rfl : args = #[v0, v1, v2, v3] := by cases args; simp_all
  obtain ⟨a0, rfl, rfl, rfl, w0⟩ := open_int Ybaf.underlying25 (hval 0 25 v0 rfl rfl) h0
  obtain ⟨a1, rfl, rfl, rfl, w1⟩ := open_int Ybaf.underlying5 (hval 1 5 v1 rfl rfl) h1
  obtain ⟨a2, rfl, rfl, rfl, w2⟩ := open_int Ybaf.underlying5 (hval 2 5 v2 rfl rfl) h2
  obtain ⟨a3, rfl, rfl, rfl, w3⟩ := open_int Ybaf.underlying5 (hval 3 5 v3 rfl rfl) h3
  clear hA0 hval0
  obtain ⟨x0, x2, x3, vv⟩ := laid_vars hL
  have b0 := bounds_u16 w0
  have b1 := bounds_u8 w1
  have b2 := bounds_u8 w2
  have b3 := bounds_u8 w3
  refine (hex_walk F.told a0 a1 a2 a3 x0 x2 x3 W vv hF b0.1 b0.2 b1.1 b1.2 b2.1 b2.2 b3.1 b3.2).mono fun e W' ⟨he, bel⟩ => ?_
  subst he
  have hV' := Below.trodVars laidOut bel (by kernel_rfl) hV
  obtain ⟨y1, y2, rfl⟩ : ∃ y1 y2, gs = [y1, y2] := two_of hV
  exact ⟨_, rfl, _, _, _, [], _, _, hW', trodAll_mk1 (shut_bool Ybaf.underlying4 _), (trodAll_cons_mk (shut_int Ybaf.underlying25 w0) (trodAll_cons_mk (shut_int Ybaf.underlying5 w1) (trodAll_cons_mk (shut_int Ybaf.underlying5 w2) (trodAll_cons_mk (shut_int Ybaf.underlying5 w3) trodAll_mk0)))), hV', bel.frame _, fun h => by cases h⟩

theorem stopsAre : Ybaf.pinned.checked.prog.stops = ["fmt.errorf"] := by kernel_rfl
theorem knobsAre : Ybaf.pinned.checked.prog.stopKnobs = [] := by kernel_rfl
theorem quiet (os : Os) : Stop.quiet Ybaf.pinned.checked.prog os := by
  intro k hk
  rw [knobsAre] at hk
  cases hk

theorem proved : Rows.LawS1540BHexToldSaid :=
  Claim7.holds_of_told_tied_any_at .later 4 Ybaf.f4 "fmt.errorf" [] [] _ _ _ _ _ (by kernel_rfl) rfl rfl rfl laidOut (by kernel_rfl) rfl ⟨rfl, rfl, rfl, rfl, rfl, rfl, rfl⟩ rfl rfl (by kernel_rfl) (by kernel_rfl) Ybaf.func4 (by kernel_rfl)
    (of_decide_eq_true (by kernel_rfl)) (by unfold Func.isWrapper; first | (rw [if_pos (by decide +kernel)]; kernel_rfl) | (rw [if_neg (by decide +kernel)]; exact ⟨rfl, rfl⟩)) stopsAre.symm rfl knobsAre.symm (by kernel_rfl)
    (by kernel_rfl) (by kernel_rfl) (by kernel_rfl) (by kernel_rfl) (by kernel_rfl) (by kernel_rfl) (by kernel_rfl) (by kernel_rfl) (by kernel_rfl) rfl (by kernel_rfl) rfl rfl
    rfl rfl
    rfl (by kernel_rfl) (by kernel_rfl) (by kernel_rfl) (by decide) (by kernel_rfl) lawS1540BHex_row_tie
    (OpenClaim.moreEntering_of (by kernel_rfl) (by kernel_rfl) (by kernel_rfl) (by kernel_rfl) (by kernel_rfl) (by kernel_rfl) (by kernel_rfl) (by kernel_rfl) (by kernel_rfl) (by kernel_rfl))
    ⟨_, WideRow.started_initial, quiet _⟩
    (fun os started _ H enc _ => lifted os started H enc)
end Go.Proofs.YbulkaewgFmt.lawS1540BHex
