/-
  inOrder walked: the row of nodes holds the same nodes, by their deadlines. By the prover of seat b1537a.
-/
import Derived.Test.YbulkaeuqOrdB
import Derived.BigQuiet
namespace Go.Proofs.Ybulkaeuq
open Go.RowKit

/-- what inOrder leaves -/
def OPost (B : Nat) (l : List Nat) (f : Nat → Int) (w : World) (e : Ending) (w' : World) : Prop :=
  e = .returned (.tuple #[]) ∧ ∃ l', l'.Perm l ∧ l'.Pairwise (fun a b => f a ≤ f b) ∧ NRow w' B l' ∧ OnB B w w'

theorem NRow.drewN {w : World} {B : Nat} {l : List Nat} (h : NRow w B l) (n : Nat) : NRow (w.drewN n) B l := h

theorem asc_all {f : Nat → Int} {l : List Nat} (h : Asc (fun t => f (l.getD t 0)) 0 l.length) : l.Pairwise (fun a b => f a ≤ f b) := by
  have := asc_pairwise h (Nat.le_refl _)
  simpa using this

theorem drewN_sum (w : World) (a b : Nat) : (w.drewN a).drewN b = w.drewN (a + b) := by simp [World.drewN, Nat.add_assoc]

theorem drewN_of {w wr : World} {a b : Nat} (h : wr = w.drewN a) : wr.drewN b = w.drewN (a + b) := by rw [h]; exact drewN_sum w a b

/-- place t of what lies in memory while the second loop goes on -/
theorem mid_get {l A : List Nat} {s t : Nat} (hA : A.length = s) (ht : s ≤ t) : (A.reverse ++ l.drop s).getD t 0 = l.getD t 0 := by
  rw [List.getD_eq_getElem?_getD, List.getElem?_append_right (by simp; omega), List.getElem?_drop, List.getD_eq_getElem?_getD]
  congr 2
  simp; omega

theorem mid_split (l A : List Nat) (s i : Nat) (h : s ≤ i) : A.reverse ++ l.drop s = A.reverse ++ (l.take i).drop s ++ l.drop i := by
  rw [List.append_assoc]
  congr 1
  conv => lhs; rw [← List.take_append_drop i l, List.drop_append]
  rw [List.length_take]
  congr 1
  by_cases hl : i ≤ l.length
  · rw [show s - min i l.length = 0 by omega, List.drop_zero]
  · rw [List.drop_eq_nil_of_le (show l.length ≤ i by omega)]; simp

set_option maxHeartbeats 4000000 in
set_option maxRecDepth 100000 in
theorem inOrder_calls (B : Nat) (l : List Nat) (f : Nat → Int) (w : World) (hR : NRow w B l) (hk : ∀ p ∈ l, NdK w B f p) (hm : ∀ p ∈ l, f p ≤ 9223372036854775807) (h0 : 0 < l.length) (hl : l.length ≤ 256) :
    Calls Yba.prog 44 #[.slice (some ⟨B, 0, none⟩) l.length 256] w (OPost B l f w) := by
  obtain ⟨n, hn⟩ : ∃ n, l.length = n := ⟨_, rfl⟩
  rw [hn]
  have HN : Hid (l.length = n) := hn
  have hmem : Hid (∀ t, t < n → l.getD t 0 ∈ l) := by
    intro t ht
    rw [← HN.out] at ht
    simp [ht]
  have hn0 : 0 < n := by omega
  have hn1 : n ≤ 256 := by omega
  have HR : Hid (NRow w B l) := hR
  have HK : Hid (∀ p ∈ l, NdK w B f p) := hk
  have HM : Hid (∀ p ∈ l, f p ≤ 9223372036854775807) := hm
  clear hR hk hm hn h0 hl
  go_enter Yba.func44, Yba.ntmps44
  go_wp2_with fail
  go_loopw [2, 3, 4, 5] (fun s2 s3 s4 s5 wr => ∃ (r s i : Nat) (b : Int) (q : Nat), s2 = .int .i64 r ∧ s3 = .int .i64 s ∧ s4 = .int .i64 b ∧ s5 = .int .i64 i ∧ i ≤ n + 1 ∧ Inv1 (fun t => f (l.getD t 0)) n s i r b ∧ (∀ a, r = 0 → a < n → f (l.getD a 0) ≤ b) ∧ wr = w.drewN q) (fun _ _ _ s5 _ => n + 1 - (intOf s5).toNat)
  case atStart => exact ⟨0, 0, 1, 9223372036854775807, 0, rfl, rfl, rfl, rfl, by omega, Inv1.start _ _ _ hn0, fun a _ ha => HM.out _ (hmem.out a ha), rfl⟩
  case round =>
    obtain ⟨r, s, i, b, q, rfl, rfl, rfl, rfl, hi, I, hb, hwr⟩ := hrel
    have HI : Hid (Inv1 (fun t => f (l.getD t 0)) n s i r b) := I
    have hsi := I.si
    have hir := I.ir
    have HWR : Hid (wr = w.drewN q) := hwr
    have RR : NRow wr B l := by rw [hwr]; exact HR.out
    have KK : ∀ p ∈ l, NdK wr B f p := by rw [hwr]; exact HK.out
    have HB : Hid (∀ a, r = 0 → a < n → f (l.getD a 0) ≤ b) := hb
    clear I hwr hb
    by_cases hin : i ≤ n
    · obtain ⟨j, rfl⟩ : ∃ j, i = j + 1 := ⟨i - 1, by omega⟩
      obtain ⟨pj, hpj⟩ : ∃ x, l.getD j 0 = x := ⟨_, rfl⟩
      obtain ⟨vj, hvj⟩ : ∃ x, f pj = x := ⟨_, rfl⟩
      obtain ⟨ps, hps⟩ : ∃ x, l.getD s 0 = x := ⟨_, rfl⟩
      obtain ⟨vs, hvs⟩ : ∃ x, f ps = x := ⟨_, rfl⟩
      have cj := (RR.2 j (by rw [HN.out]; omega)).1
      have kj := (KK _ (hmem.out j (by omega))).2
      have cs := (RR.2 s (by rw [HN.out]; omega)).1
      have ks := (KK _ (hmem.out s (by omega))).2
      unfold pe at cj cs
      rw [hpj] at cj kj
      rw [hvj] at kj
      rw [hps] at cs ks
      rw [hvs] at ks
      have HJ : Hid (f (l.getD j 0) = vj) := by rw [hpj, hvj]; exact (rfl : vj = vj)
      have HS : Hid (f (l.getD s 0) = vs) := by rw [hps, hvs]; exact (rfl : vs = vs)
      have HRR : Hid (NRow wr B l) := RR
      have HKK : Hid (∀ p ∈ l, NdK wr B f p) := KK
      clear RR KK hpj hvj hps hvs
      by_cases hlt : j + 1 < n
      · have ci := (HRR.out.2 (j + 1) (by rw [HN.out]; omega)).1
        have ki := (HKK.out _ (hmem.out (j + 1) (by omega))).2
        obtain ⟨pi, hpi⟩ : ∃ x, l.getD (j + 1) 0 = x := ⟨_, rfl⟩
        obtain ⟨vi, hvi⟩ : ∃ x, f pi = x := ⟨_, rfl⟩
        unfold pe at ci
        rw [hpi] at ci ki
        rw [hvi] at ki
        have HV : Hid (f (l.getD (j + 1) 0) = vi) := by rw [hpi, hvi]; exact (rfl : vi = vi)
        clear hpi hvi
        have hlt' : (j : Int) + 1 < (n : Int) := by omega
        by_cases hle : vj ≤ vi
        · go_wp2_with fail
          go_quiet (fail)
          go_wp2_with fail
          go_roundw
          case rel => exact ⟨r, s, j + 1 + 1, b, q + nq, rfl, rfl, rfl, by go_num, by omega, HI.out.go hlt (by rw [show j + 1 - 1 = j by omega]; simp only [HJ.out, HV.out]; exact hle), HB.out, by rw [HWR.out]; exact drewN_sum w q nq⟩
          case measure => simp [intOf]; omega
        · have hd : decide (vj ≤ vi) = false := decide_eq_false hle
          by_cases hgt : b < vj
          · go_wp2_with fail
            go_quiet (fail)
            go_wp2_with fail
            have HS2 := sortF_calls B 256 l f (wr.drewN nq) HRR.out HKK.out (by rw [HN.out]; exact hn0) (by rw [HN.out]; exact hn1)
            rw [HN.out] at HS2
            refine HS2.mono ?_
            rintro e w2 ⟨rfl, l', h1, h2, h3, h4⟩
            go_wp2_with fail
            refine bodyPost_ret (results_none rfl _ _ _) rfl ?_
            exact ⟨rfl, l', h1, h2, h3, by have h5 := OnB.drewN B w (q + nq); rw [HWR.out, drewN_sum] at h4; exact h5.trans h4⟩
          · have hgd : decide (b < vj) = false := decide_eq_false hgt
            go_wp2_with fail
            go_quiet (fail)
            go_wp2_with fail
            go_quiet (fail)
            go_wp2_with fail
            go_roundw
            case rel => exact ⟨r + 1, j + 1, j + 1 + 1, vs, _, by go_num, by go_num, rfl, by go_num, by omega, by have := HI.out.cut hin (by rw [show j + 1 - 1 = j by omega]; simp only [HJ.out]; omega); simp only [HS.out] at this; exact this, fun a h => by omega, drewN_of HWR.out⟩
            case measure => simp [intOf]; omega
      · have hlt' : decide ((j : Int) + 1 < (n : Int)) = false := decide_eq_false (by omega)
        by_cases hgt : b < vj
        · go_wp2_with fail
          go_quiet (fail)
          go_wp2_with fail
          have HS2 := sortF_calls B 256 l f (wr.drewN nq) HRR.out HKK.out (by rw [HN.out]; exact hn0) (by rw [HN.out]; exact hn1)
          rw [HN.out] at HS2
          refine HS2.mono ?_
          rintro e w2 ⟨rfl, l', h1, h2, h3, h4⟩
          go_wp2_with fail
          refine bodyPost_ret (results_none rfl _ _ _) rfl ?_
          exact ⟨rfl, l', h1, h2, h3, by have h5 := OnB.drewN B w (q + nq); rw [HWR.out, drewN_sum] at h4; exact h5.trans h4⟩
        · have hgd : decide (b < vj) = false := decide_eq_false hgt
          go_wp2_with fail
          go_quiet (fail)
          go_wp2_with fail
          go_quiet (fail)
          go_wp2_with fail
          go_roundw
          case rel => exact ⟨r + 1, j + 1, j + 1 + 1, vs, _, by go_num, by go_num, rfl, by go_num, by omega, by have := HI.out.cut hin (by rw [show j + 1 - 1 = j by omega]; simp only [HJ.out]; omega); simp only [HS.out] at this; exact this, fun a h => by omega, drewN_of HWR.out⟩
          case measure => simp [intOf]; omega
    · have HSN : Hid (s = n) := HI.out.fin (by omega)
      have hi10 : decide ((i : Int) ≤ (n : Int)) = false := decide_eq_false (by omega)
      by_cases hr1 : r = 1
      · subst hr1
        go_wp2_with fail
        refine bodyPost_ret (results_none rfl _ _ _) rfl ?_
        exact ⟨rfl, l, List.Perm.refl _, asc_all (by have := HI.out.r1 rfl; rw [HSN.out] at this; rw [HN.out]; exact this), RR, by rw [HWR.out]; exact OnB.drewN _ _ _⟩
      · have hrd : ((r : Int) == 1) = false := beq_eq_false_iff_ne.2 (by omega)
        have HRR : Hid (NRow wr B l) := RR
        have HKK : Hid (∀ p ∈ l, NdK wr B f p) := KK
        have HRU : Hid (Runs (fun t => f (l.getD t 0)) l.length) := by have := HI.out.runs; rw [HSN.out, ← HN.out] at this; exact this
        have hon : OnB B w wr := by rw [HWR.out]; exact OnB.drewN _ _ _
        have HON : Hid (OnB B w wr) := hon
        clear RR KK hon
        go_wp2_with fail
        go_loopw [3, 6] (fun s3 s6 wx => ∃ (s i : Nat) (A : List Nat), s3 = .int .i64 s ∧ s6 = .int .i64 i ∧ i ≤ n + 1 ∧ Inv2 f l s i A ∧ NRow wx B (A.reverse ++ l.drop s) ∧ OnB B w wx) (fun _ s6 _ => n + 1 - (intOf s6).toNat)
        case atStart => exact ⟨0, 1, [], rfl, rfl, by omega, Inv2.start f l (by rw [HN.out]; exact hn0), by simpa using HRR.out, HON.out⟩
        case round =>
          obtain ⟨s, i, A, rfl, rfl, hi, I, R, O⟩ := hrel
          have hsi := I.si
          have hal : A.length = s := by have := I.perm.length_eq; rw [List.length_take, Nat.min_eq_left I.sn] at this; exact this
          have HAL : Hid (A.length = s) := hal
          have HI2 : Hid (Inv2 f l s i A) := I
          have HR2 : Hid (NRow wr B (A.reverse ++ l.drop s)) := R
          have HO2 : Hid (OnB B w wr) := O
          have hsl : Hid ((A.reverse ++ l.drop s).length = n) := by
            have h1 := I.sn
            have h2 := HN.out
            show (A.reverse ++ l.drop s).length = n
            simp
            omega
          have HKX : Hid (∀ t, t < n → NdK wr B f (l.getD t 0)) := fun t ht => (HK.out _ (hmem.out t ht)).on O
          clear hal I R O
          by_cases hin : i ≤ n
          · obtain ⟨j, rfl⟩ : ∃ j, i = j + 1 := ⟨i - 1, by omega⟩
            obtain ⟨pj, hpj⟩ : ∃ x, l.getD j 0 = x := ⟨_, rfl⟩
            obtain ⟨vj, hvj⟩ : ∃ x, f pj = x := ⟨_, rfl⟩
            have cj := (HR2.out.2 j (by rw [hsl.out]; omega)).1
            have kj := (HKX.out j (by omega)).2
            rw [mid_get HAL.out (by omega)] at cj
            unfold pe at cj
            rw [hpj] at cj kj
            rw [hvj] at kj
            have HJ : Hid (f (l.getD j 0) = vj) := by rw [hpj, hvj]; exact (rfl : vj = vj)
            clear hpj hvj
            have hc1 : (256 : Int) - (s : Int) = ((256 - s : Nat) : Int) := by omega
            have hc2 : ((j : Int) + 1) - (s : Int) = ((j + 1 - s : Nat) : Int) := by omega
            by_cases hlt : j + 1 < n
            · have ci := (HR2.out.2 (j + 1) (by rw [hsl.out]; omega)).1
              have ki := (HKX.out (j + 1) (by omega)).2
              obtain ⟨pi, hpi⟩ : ∃ x, l.getD (j + 1) 0 = x := ⟨_, rfl⟩
              obtain ⟨vi, hvi⟩ : ∃ x, f pi = x := ⟨_, rfl⟩
              rw [mid_get HAL.out (by omega)] at ci
              unfold pe at ci
              rw [hpi] at ci ki
              rw [hvi] at ki
              have HV : Hid (f (l.getD (j + 1) 0) = vi) := by rw [hpi, hvi]; exact (rfl : vi = vi)
              clear hpi hvi
              have hne : (((j : Int) + 1) == (n : Int)) = false := beq_eq_false_iff_ne.2 (by omega)
              by_cases hle : vi < vj
              · go_wp2_with fail
                go_quiet (fail)
                go_wp2_with fail
                have hrow : NRow (wr.drewN nq) B (A.reverse ++ (l.take (j + 1)).drop s ++ l.drop (j + 1)) := by rw [← mid_split l A s (j + 1) (by omega)]; exact HR2.out
                have hseg : ((l.take (j + 1)).drop s).length = j + 1 - s := by rw [List.length_drop, List.length_take, HN.out]; omega
                have hrc := rev_calls B (256 - s) s A.reverse ((l.take (j + 1)).drop s) (l.drop (j + 1)) (wr.drewN nq) hrow (by rw [List.length_reverse, HAL.out]) (by rw [hseg]; omega)
                rw [hseg] at hrc
                clear hrow hseg
                refine hrc.mono ?_
                rintro e w2 ⟨rfl, hR3, hO3⟩
                rw [← List.reverse_append] at hR3
                go_wp2_with fail
                go_roundw
                case rel => exact ⟨j + 1, j + 1 + 1, (l.take (j + 1)).drop s ++ A, by go_num, by go_num, by omega, HI2.out.cut HRU.out (by rw [HN.out]; omega) (fun _ => by rw [show j + 1 - 1 = j by omega, HJ.out, HV.out]; exact hle), hR3, HO2.out.trans ((OnB.drewN B _ _).trans hO3)⟩
                case measure => simp [intOf]; omega
              · have hd : decide (vi < vj) = false := decide_eq_false hle
                go_wp2_with fail
                go_quiet (fail)
                go_wp2_with fail
                go_roundw
                case rel => exact ⟨s, j + 1 + 1, A, rfl, by go_num, by omega, HI2.out.go (by rw [HN.out]; exact hlt) (by rw [show j + 1 - 1 = j by omega, HJ.out, HV.out]; omega), HR2.out, HO2.out.trans (OnB.drewN B _ _)⟩
                case measure => simp [intOf]; omega
            · have hne : (((j : Int) + 1) == (n : Int)) = true := beq_iff_eq.2 (by omega)
              go_wp2_with fail
              go_quiet (fail)
              go_wp2_with fail
              have hrow : NRow (wr.drewN nq) B (A.reverse ++ (l.take (j + 1)).drop s ++ l.drop (j + 1)) := by rw [← mid_split l A s (j + 1) (by omega)]; exact HR2.out
              have hseg : ((l.take (j + 1)).drop s).length = j + 1 - s := by rw [List.length_drop, List.length_take, HN.out]; omega
              have hrc := rev_calls B (256 - s) s A.reverse ((l.take (j + 1)).drop s) (l.drop (j + 1)) (wr.drewN nq) hrow (by rw [List.length_reverse, HAL.out]) (by rw [hseg]; omega)
              rw [hseg] at hrc
              clear hrow hseg
              refine hrc.mono ?_
              rintro e w2 ⟨rfl, hR3, hO3⟩
              rw [← List.reverse_append] at hR3
              go_wp2_with fail
              go_roundw
              case rel => exact ⟨j + 1, j + 1 + 1, (l.take (j + 1)).drop s ++ A, by go_num, by go_num, by omega, HI2.out.cut HRU.out (by rw [HN.out]; omega) (fun h => by rw [HN.out] at h; omega), hR3, HO2.out.trans ((OnB.drewN B _ _).trans hO3)⟩
              case measure => simp [intOf]; omega
          · have HS3 : Hid (s = n) := by have := HI2.out.fin (by rw [HN.out]; omega); rw [HN.out] at this; exact this
            have hi62 : decide ((i : Int) ≤ (n : Int)) = false := decide_eq_false (by omega)
            have hrow : NRow wr B ([] ++ A.reverse ++ []) := by have := HR2.out; rw [HS3.out, ← HN.out, List.drop_length] at this; simpa using this
            have hal : A.reverse.length = n := by rw [List.length_reverse, HAL.out, HS3.out]
            have HRC : Hid (∀ wz, wz = wr → Calls Yba.prog 61 #[.slice (some ⟨B, 0, none⟩) n 256] wz fun e w' => e = .returned (.tuple #[]) ∧ NRow w' B A ∧ OnB B wr w') := by
              rintro wz rfl
              have := rev_calls B 256 0 [] A.reverse [] wz hrow rfl (by omega)
              rw [hal, List.reverse_reverse] at this
              simpa using this
            clear hrow hal
            go_wp2_with fail
            refine (HRC.out _ rfl).mono ?_
            rintro e w2 ⟨rfl, hR3, hO3⟩
            go_wp2_with fail
            refine bodyPost_ret (results_none rfl _ _ _) rfl ?_
            refine ⟨rfl, A, ?_, HI2.out.ord, hR3, HO2.out.trans hO3⟩
            have := HI2.out.perm
            rw [HS3.out, ← HN.out, List.take_length] at this
            exact this
end Go.Proofs.Ybulkaeuq
