/-
  zzs1540bcheck walked, head by its contract. By the prover of seat b1540aF.
-/
import Derived.Test.YbulkaewgFmtHead
import Derived.Test.YbulkaewgFmtShort
namespace Go.Proofs.YbulkaewgFmt
open Go.RowKit

theorem neq_other {W : World} {x a : Addr} {cx ca : Array Value} {tx ta : TypeId} (hx : W.heap[x.block]? = some (.cells cx tx (0, 0))) (ha : W.heap[a.block]? = some (.cells ca ta (0, 0))) (h : x ≠ a) :
    (binOp .neq 29 (.iface 43 (.pointer (some x))) (.iface 43 (.pointer (some a)))).run Ybaf.prog W = .ok (.bool true) W := by
  obtain ⟨i, hi, hcmp⟩ := Option.map_eq_some_iff.1 Ybaf.isComp
  obtain ⟨j, hj, hjs⟩ := Option.map_eq_some_iff.1 Ybaf.isSize
  simp only [binOp]
  simp [Op.equal, Op.maxDepth, run_equalIn_iface_ptr_other W 9998 Ybaf.underlying29 Ybaf.underlying43 hi hcmp hj (by rw [hjs]; decide) h hx ha]

/-- the same world (a word that no rewriting sees through) -/
def SameW (a b : World) : Prop := a = b

/-- what head answers to zzs1540bcheck -/
def CH (D : List Int) (N : Nat) (a0 : Addr) (w : World) (e : Ending) (w' : World) : Prop :=
  ∃ (K L : Int) (E : Value), e = .returned (.tuple #[.int .i64 K, .int .i64 L, E]) ∧ w'.cell? ⟨w.heap.size, 1, none⟩ = some (.int .i64 ((min N 4 : Nat) : Int)) ∧ Below w.heap.size w w' ∧
    ((N < 4 ∧ K = 0 ∧ L = 0 ∧ E = .iface 43 (.pointer (some a0))) ∨ (4 ≤ N ∧ Out w.heap.size (vld D 4) (lenN D 4) K L E w'))

/-- the reader that zzs1540bcheck makes -/
def rdObj (db N cap chunk : Nat) : Obj := .cells #[.slice (some ⟨db, 0, none⟩) N cap, .int .i64 0, .int .i64 chunk, .int .i64 0, .int .i64 0, .nilIface] 33

set_option maxHeartbeats 4000000 in
set_option maxRecDepth 100000 in
theorem check_walk (db N cap chunk : Nat) (D : List Int) (a0 : Addr) (w : World) {cz : Array Value} {tz : TypeId} (hN : N ≤ 1100) (hdb : db < w.heap.size) (b4 : 5 < w.heap.size)
    (hdat : ∀ j, j < N → w.cell? ⟨db, j, none⟩ = some (.int .u8 (D.getD j 0))) (hD : ∀ j, j < N → 0 ≤ D.getD j 0 ∧ D.getD j 0 < 256)
    (g0 : w.cell? ⟨0, 0, none⟩ = some (.iface 43 (.pointer (some a0)))) (gz : w.heap[a0.block]? = some (.cells cz tz (0, 0))) (gl : a0.block < w.heap.size)
    (HH : ∀ c, Pkt w.heap.size (w.heap.size + 1) ((w.alloc (rdObj db N cap chunk)).alloc (.cells c 50)) → Calls Ybaf.prog 10 #[.pointer (some ⟨w.heap.size + 1, 0, none⟩)] ((w.alloc (rdObj db N cap chunk)).alloc (.cells c 50)) (CH D N a0 w)) :
    Calls Ybaf.prog 6 #[.slice (some ⟨db, 0, none⟩) N cap, .int .i64 chunk] w fun e w' => e = .returned (.bool true) ∧ Below w.heap.size w w' := by
  have HC : Hid (∀ c, Pkt w.heap.size (w.heap.size + 1) ((w.alloc (rdObj db N cap chunk)).alloc (.cells c 50)) → Calls Ybaf.prog 10 #[.pointer (some ⟨w.heap.size + 1, 0, none⟩)] ((w.alloc (rdObj db N cap chunk)).alloc (.cells c 50)) (CH D N a0 w)) := HH
  have HDT : Hid (∀ j, j < N → w.cell? ⟨db, j, none⟩ = some (.int .u8 (D.getD j 0))) := hdat
  have HDD : Hid (∀ j, j < N → 0 ≤ D.getD j 0 ∧ D.getD j 0 < 256) := hD
  clear HH hdat hD
  go_enter Ybaf.func6, Ybaf.ntmps6
  go_wp2_with fail
  refine (newPkt_calls w.heap.size _).mono ?_
  rintro e w4 ⟨rfl, c, rfl, pk⟩
  simp only [World.size_alloc] at pk
  go_wp2_with fail
  refine (HC.out c pk).mono ?_
  clear pk
  rintro e w5 ⟨K, L, E, rfl, hpos, bel, hor⟩
  have g05 : w5.cell? ⟨0, 0, none⟩ = some (.iface 43 (.pointer (some a0))) := (bel.cell (p := ⟨0, 0, none⟩) (by show 0 < w.heap.size; omega)).trans g0
  have HBL : Hid (Below w.heap.size w w5) := bel
  have HG : Hid (w5.heap[a0.block]? = some (.cells cz tz (0, 0))) := (bel.block _ gl).trans gz
  clear bel
  rcases hor with ⟨hN4, rfl, rfl, rfl⟩ | ⟨hN4, hout⟩
  · have hmin : ((min N 4 : Nat) : Int) = (N : Int) := by omega
    rw [hmin] at hpos
    clear hmin
    have hq := eql_same (W := w5) a0
    go_wp2_with fail
    go_ret
    exact ⟨rfl, HBL.out⟩
  · have hmin : ((min N 4 : Nat) : Int) = 4 := by omega
    rw [hmin] at hpos
    clear hmin
    have HOUT : Hid (Out w.heap.size (vld D 4) (lenN D 4) K L E w5) := hout
    clear hout
    by_cases hN5 : 4 < N
    · have dN1 : decide ((4 : Int) < (N : Int)) = true := decide_eq_true (by omega)
      have dN2 : decide ((N : Int) < 4) = false := decide_eq_false (by omega)
      go_wp2_with fail
      go_loopw [11, 12, 13, 14, 15] (fun s11 s12 s13 _ _ wr => ∃ i : Nat, s11 = .bool (vld D i) ∧ s12 = .int .i64 ((lenN D i : Nat) : Int) ∧ s13 = .int .i64 i ∧ i ≤ 4 ∧ SameW wr w5) (fun _ _ s13 _ _ _ => 4 - (intOf s13).toNat)
      case atStart => exact ⟨0, rfl, rfl, rfl, by omega, rfl⟩
      case round =>
        obtain ⟨i, rfl, rfl, rfl, hi, hwr0⟩ := hrel
        have hwr : wr = w5 := hwr0
        clear hwr0
        subst hwr
        by_cases hi4 : i < 4
        · obtain ⟨c, hc⟩ : ∃ c, c = D.getD i 0 := ⟨_, rfl⟩
          have hcell : wr.cell? ⟨db, i, none⟩ = some (.int .u8 c) := by rw [hc]; exact (HBL.out.cell (p := ⟨db, i, none⟩) hdb).trans (HDT.out i (by omega))
          have hc01 := HDD.out i (by omega)
          rw [← hc] at hc01
          obtain ⟨h0, h1⟩ := hc01
          obtain ⟨n, hn⟩ : ∃ n, n = lenN D i := ⟨_, rfl⟩
          have hn4 : n < 4096 := by
            have := lenN_lt D i
            have : 16 ^ i ≤ 16 ^ 3 := Nat.pow_le_pow_right (by omega) (by omega)
            omega
          have hnv := nv_lt c
          obtain ⟨v, hv⟩ : ∃ v, v = nv c := ⟨_, rfl⟩
          have hor : bits .or .i64 ((n : Int) * 16) (v : Int) = ((n * 16 + v : Nat) : Int) := or_next n v (by omega) (by omega)
          have HL : Hid (lenN D (i + 1) = n * 16 + v) := by show lenN D i * 16 + nv (D.getD i 0) = n * 16 + v; rw [hn, hv, hc]
          have hnb := nib_calls c wr h0 h1
          rw [← hv] at hnb
          rw [← hn]
          obtain ⟨m, hm⟩ : ∃ m, m = n * 16 + v := ⟨_, rfl⟩
          rw [← hm] at hor HL
          cases hk : nok c with
          | true =>
            have HV : Hid (vld D (i + 1) = vld D i) := by show (vld D i && nok (D.getD i 0)) = vld D i; rw [← hc, hk, Bool.and_true]
            rw [hk] at hnb
            clear hk hc hn hv hm
            go_wp2_with (go_at_call 11; refine hnb.mono ?_; rintro e w' ⟨rfl, rfl⟩)
            all_goals go_roundw
            all_goals first | (refine ⟨_, _, _, _, _, _, _, _, _, _, _, _, _, _, _, _, _, _, _, _, _, _, _, ?_, rfl⟩; exact ⟨i + 1, by rw [HV.out], by rw [HL.out], by go_num, by omega, rfl⟩) | exact ⟨i + 1, by rw [HV.out], by rw [HL.out], by go_num, by omega, rfl⟩ | (simp [intOf]; omega)
          | false =>
            have HV : Hid (vld D (i + 1) = false) := by show (vld D i && nok (D.getD i 0)) = false; rw [← hc, hk, Bool.and_false]
            rw [hk] at hnb
            clear hk hc hn hv hm
            go_wp2_with (go_at_call 11; refine hnb.mono ?_; rintro e w' ⟨rfl, rfl⟩)
            all_goals go_roundw
            all_goals first | (refine ⟨_, _, _, _, _, _, _, _, _, _, _, _, _, _, _, _, _, _, _, _, _, _, _, ?_, rfl⟩; exact ⟨i + 1, by rw [HV.out], by rw [HL.out], by go_num, by omega, rfl⟩) | exact ⟨i + 1, by rw [HV.out], by rw [HL.out], by go_num, by omega, rfl⟩ | (simp [intOf]; omega)
        · obtain rfl : i = 4 := by omega
          have hn16 := lenN_lt D 4
          generalize vld D 4 = v at *
          generalize lenN D 4 = n at *
          rcases HOUT.out with ⟨rfl, h3, rfl, rfl, rfl⟩ | ⟨rfl, h4, h5, rfl, rfl, rfl⟩ | ⟨hor, rfl, rfl, eb, ce, te, rfl, heb, hec⟩
          · go_wp2_with fail
            go_ret
            exact ⟨rfl, HBL.out⟩
          · have d1 : decide (n < 3) = false := decide_eq_false (by omega)
            go_wp2_with fail
            go_ret
            exact ⟨rfl, HBL.out⟩
          · have hne : (⟨eb, 0, none⟩ : Addr) ≠ a0 := fun e => by rw [← e] at gl; exact absurd gl (by simp; omega)
            have hq := neq_other (W := wr) (x := ⟨eb, 0, none⟩) (a := a0) hec HG.out hne
            cases v with
            | false =>
              go_wp2_with fail
              go_ret
              exact ⟨rfl, HBL.out⟩
            | true =>
              have d1 : decide (n < 3) = false := decide_eq_false (by rcases hor with h | h | h; cases h; omega; omega)
              by_cases h5 : n = 3
              · subst h5
                go_wp2_with fail
                go_ret
                exact ⟨rfl, HBL.out⟩
              · have h6 : 65520 < n := by rcases hor with h | h | h; cases h; omega; exact h
                have d2 : 4 ≤ n := by omega
                have d3 : decide (n ≤ 65520) = false := decide_eq_false (by omega)
                go_wp2_with fail
                go_ret
                exact ⟨rfl, HBL.out⟩
    · obtain rfl : N = 4 := by omega
      go_wp2_with fail
      go_loopw [11, 12, 13, 14, 15] (fun s11 s12 s13 _ _ wr => ∃ i : Nat, s11 = .bool (vld D i) ∧ s12 = .int .i64 ((lenN D i : Nat) : Int) ∧ s13 = .int .i64 i ∧ i ≤ 4 ∧ SameW wr w5) (fun _ _ s13 _ _ _ => 4 - (intOf s13).toNat)
      case atStart => exact ⟨0, rfl, rfl, rfl, by omega, rfl⟩
      case round =>
        obtain ⟨i, rfl, rfl, rfl, hi, hwr0⟩ := hrel
        have hwr : wr = w5 := hwr0
        clear hwr0
        subst hwr
        by_cases hi4 : i < 4
        · obtain ⟨c, hc⟩ : ∃ c, c = D.getD i 0 := ⟨_, rfl⟩
          have hcell : wr.cell? ⟨db, i, none⟩ = some (.int .u8 c) := by rw [hc]; exact (HBL.out.cell (p := ⟨db, i, none⟩) hdb).trans (HDT.out i (by omega))
          have hc01 := HDD.out i (by omega)
          rw [← hc] at hc01
          obtain ⟨h0, h1⟩ := hc01
          obtain ⟨n, hn⟩ : ∃ n, n = lenN D i := ⟨_, rfl⟩
          have hn4 : n < 4096 := by
            have := lenN_lt D i
            have : 16 ^ i ≤ 16 ^ 3 := Nat.pow_le_pow_right (by omega) (by omega)
            omega
          have hnv := nv_lt c
          obtain ⟨v, hv⟩ : ∃ v, v = nv c := ⟨_, rfl⟩
          have hor : bits .or .i64 ((n : Int) * 16) (v : Int) = ((n * 16 + v : Nat) : Int) := or_next n v (by omega) (by omega)
          have HL : Hid (lenN D (i + 1) = n * 16 + v) := by show lenN D i * 16 + nv (D.getD i 0) = n * 16 + v; rw [hn, hv, hc]
          have hnb := nib_calls c wr h0 h1
          rw [← hv] at hnb
          rw [← hn]
          obtain ⟨m, hm⟩ : ∃ m, m = n * 16 + v := ⟨_, rfl⟩
          rw [← hm] at hor HL
          cases hk : nok c with
          | true =>
            have HV : Hid (vld D (i + 1) = vld D i) := by show (vld D i && nok (D.getD i 0)) = vld D i; rw [← hc, hk, Bool.and_true]
            rw [hk] at hnb
            clear hk hc hn hv hm
            go_wp2_with (go_at_call 11; refine hnb.mono ?_; rintro e w' ⟨rfl, rfl⟩)
            all_goals go_roundw
            all_goals first | (refine ⟨_, _, _, _, _, _, _, _, _, _, _, _, _, _, _, _, _, _, _, _, _, _, _, ?_, rfl⟩; exact ⟨i + 1, by rw [HV.out], by rw [HL.out], by go_num, by omega, rfl⟩) | exact ⟨i + 1, by rw [HV.out], by rw [HL.out], by go_num, by omega, rfl⟩ | (simp [intOf]; omega)
          | false =>
            have HV : Hid (vld D (i + 1) = false) := by show (vld D i && nok (D.getD i 0)) = false; rw [← hc, hk, Bool.and_false]
            rw [hk] at hnb
            clear hk hc hn hv hm
            go_wp2_with (go_at_call 11; refine hnb.mono ?_; rintro e w' ⟨rfl, rfl⟩)
            all_goals go_roundw
            all_goals first | (refine ⟨_, _, _, _, _, _, _, _, _, _, _, _, _, _, _, _, _, _, _, _, _, _, _, ?_, rfl⟩; exact ⟨i + 1, by rw [HV.out], by rw [HL.out], by go_num, by omega, rfl⟩) | exact ⟨i + 1, by rw [HV.out], by rw [HL.out], by go_num, by omega, rfl⟩ | (simp [intOf]; omega)
        · obtain rfl : i = 4 := by omega
          have hn16 := lenN_lt D 4
          generalize vld D 4 = v at *
          generalize lenN D 4 = n at *
          rcases HOUT.out with ⟨rfl, h3, rfl, rfl, rfl⟩ | ⟨rfl, h4, h5, rfl, rfl, rfl⟩ | ⟨hor, rfl, rfl, eb, ce, te, rfl, heb, hec⟩
          · go_wp2_with fail
            go_ret
            exact ⟨rfl, HBL.out⟩
          · have d1 : decide (n < 3) = false := decide_eq_false (by omega)
            go_wp2_with fail
            go_ret
            exact ⟨rfl, HBL.out⟩
          · have hne : (⟨eb, 0, none⟩ : Addr) ≠ a0 := fun e => by rw [← e] at gl; exact absurd gl (by simp; omega)
            have hq := neq_other (W := wr) (x := ⟨eb, 0, none⟩) (a := a0) hec HG.out hne
            cases v with
            | false =>
              go_wp2_with fail
              go_ret
              exact ⟨rfl, HBL.out⟩
            | true =>
              have d1 : decide (n < 3) = false := decide_eq_false (by rcases hor with h | h | h; cases h; omega; omega)
              by_cases h5 : n = 3
              · subst h5
                go_wp2_with fail
                go_ret
                exact ⟨rfl, HBL.out⟩
              · have h6 : 65520 < n := by rcases hor with h | h | h; cases h; omega; exact h
                have d2 : 4 ≤ n := by omega
                have d3 : decide (n ≤ 65520) = false := decide_eq_false (by omega)
                go_wp2_with fail
                go_ret
                exact ⟨rfl, HBL.out⟩
end Go.Proofs.YbulkaewgFmt
