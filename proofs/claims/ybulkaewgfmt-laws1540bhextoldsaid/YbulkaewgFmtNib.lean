/-
  The plain laws of the length field's digits; zzs1540bnib walked. By the prover of seat b1540aF.
-/
import Derived.Test.YbulkaewgFmtRows
import Derived.WalkKit
import Derived.Laws.BitsLemmas
import Derived.Lib.HexFns2
namespace Go.Proofs.YbulkaewgFmt
open Go.RowKit Go.Lib

/-- the digit's value -/
def nv (c : Int) : Nat := if 48 ≤ c ∧ c ≤ 57 then (c - 48).toNat else if 97 ≤ c ∧ c ≤ 102 then (c - 87).toNat else if 65 ≤ c ∧ c ≤ 70 then (c - 55).toNat else 0
/-- it is a digit -/
def nok (c : Int) : Bool := decide (48 ≤ c ∧ c ≤ 57) || decide (97 ≤ c ∧ c ≤ 102) || decide (65 ≤ c ∧ c ≤ 70)
theorem nv_lt (c : Int) : nv c < 16 := by unfold nv; split <;> (try split) <;> (try split) <;> omega

/-- the first i bytes are digits; their value -/
def vld (D : List Int) : Nat → Bool
  | 0 => true
  | i + 1 => vld D i && nok (D.getD i 0)
def lenN (D : List Int) : Nat → Nat
  | 0 => 0
  | i + 1 => lenN D i * 16 + nv (D.getD i 0)

theorem nib_v (c : Int) (h0 : 0 ≤ c) (h1 : c < 256) : (nok c = true → Hx.v (UInt8.ofNat c.toNat) = nv c) ∧ (nok c = false → 15 < Hx.v (UInt8.ofNat c.toNat)) := by
  obtain ⟨n, rfl⟩ := Int.eq_ofNat_of_zero_le h0
  have key : ∀ m : Fin 256, (nok (m.val : Int) = true → Hx.v (UInt8.ofNat (m.val : Int).toNat) = nv (m.val : Int)) ∧ (nok (m.val : Int) = false → 15 < Hx.v (UInt8.ofNat (m.val : Int).toNat)) := by decide +kernel
  exact key ⟨n, by omega⟩

/-- hex.Decode over four bytes -/
theorem decode4 (D : List Int) (hD : ∀ j, j < 4 → 0 ≤ D.getD j 0 ∧ D.getD j 0 < 256) :
    (vld D 4 = true → Hx.decode (Lib.bytesOf [D.getD 0 0, D.getD 1 0, D.getD 2 0, D.getD 3 0]) = ([UInt8.ofNat (nv (D.getD 0 0) * 16 + nv (D.getD 1 0)), UInt8.ofNat (nv (D.getD 2 0) * 16 + nv (D.getD 3 0))], .ok)) ∧
    (vld D 4 = false → ∃ pre c, Hx.decode (Lib.bytesOf [D.getD 0 0, D.getD 1 0, D.getD 2 0, D.getD 3 0]) = (pre, .bad c)) := by
  have e : Lib.bytesOf [D.getD 0 0, D.getD 1 0, D.getD 2 0, D.getD 3 0] = [UInt8.ofNat (D.getD 0 0).toNat, UInt8.ofNat (D.getD 1 0).toNat, UInt8.ofNat (D.getD 2 0).toNat, UInt8.ofNat (D.getD 3 0).toNat] := rfl
  have n0 := nib_v _ (hD 0 (by omega)).1 (hD 0 (by omega)).2
  have n1 := nib_v _ (hD 1 (by omega)).1 (hD 1 (by omega)).2
  have n2 := nib_v _ (hD 2 (by omega)).1 (hD 2 (by omega)).2
  have n3 := nib_v _ (hD 3 (by omega)).1 (hD 3 (by omega)).2
  have l0 := nv_lt (D.getD 0 0)
  have l1 := nv_lt (D.getD 1 0)
  have l2 := nv_lt (D.getD 2 0)
  have l3 := nv_lt (D.getD 3 0)
  rw [e, Hx.decode_two, Hx.decode_two, Hx.decode_nil]
  simp only [vld, Bool.true_and, Bool.and_eq_true, Bool.and_eq_false_iff]
  constructor
  · rintro ⟨⟨⟨k0, k1⟩, k2⟩, k3⟩
    rw [n0.1 k0, n1.1 k1, n2.1 k2, n3.1 k3, if_neg (by omega), if_neg (by omega), if_neg (by omega), if_neg (by omega)]
  · intro h
    by_cases b0 : 15 < Hx.v (UInt8.ofNat (D.getD 0 0).toNat)
    · rw [if_pos b0]; exact ⟨_, _, rfl⟩
    · rw [if_neg b0]
      by_cases b1 : 15 < Hx.v (UInt8.ofNat (D.getD 1 0).toNat)
      · rw [if_pos b1]; exact ⟨_, _, rfl⟩
      · rw [if_neg b1]
        by_cases b2 : 15 < Hx.v (UInt8.ofNat (D.getD 2 0).toNat)
        · rw [if_pos b2]; exact ⟨_, _, rfl⟩
        · rw [if_neg b2]
          by_cases b3 : 15 < Hx.v (UInt8.ofNat (D.getD 3 0).toNat)
          · rw [if_pos b3]; exact ⟨_, _, rfl⟩
          · exfalso
            rcases h with ((h | h) | h) | h
            · exact b0 (n0.2 h)
            · exact b1 (n1.2 h)
            · exact b2 (n2.2 h)
            · exact b3 (n3.2 h)

theorem lenN_lt (D : List Int) : ∀ i, lenN D i < 16 ^ i
  | 0 => by simp [lenN]
  | i + 1 => by
    have := lenN_lt D i
    have := nv_lt (D.getD i 0)
    rw [lenN, Nat.pow_succ]
    omega

theorem or_next (a b : Nat) (ha : a < 65536) (hb : b < 16) : bits .or .i64 ((a : Int) * 16) (b : Int) = ((a * 16 + b : Nat) : Int) := by
  rw [bits_join .i64 62 (by decide) (fun n h₀ h₁ => by rw [IntKind.wrap_i64]; omega) 4 _ _ (by omega) (by omega) (by omega) (by omega) (by omega) (by omega)]
  omega
theorem or_bytes (a b : Nat) (ha : a < 256) (hb : b < 256) : bits .or .i64 ((a : Int) * 256) (b : Int) = ((a * 256 + b : Nat) : Int) := by
  rw [bits_join .i64 62 (by decide) (fun n h₀ h₁ => by rw [IntKind.wrap_i64]; omega) 8 _ _ (by omega) (by omega) (by omega) (by omega) (by omega) (by omega)]
  omega

set_option maxHeartbeats 2000000 in
theorem nib_calls (c : Int) (w : World) (h0 : 0 ≤ c) (h1 : c < 256) : Calls Ybaf.prog 11 #[.int .u8 c] w fun e w' => e = .returned (.tuple #[.int .i64 (nv c), .bool (nok c)]) ∧ w' = w := by
  have hcs : c < 48 ∨ (48 ≤ c ∧ c ≤ 57) ∨ (57 < c ∧ c < 65) ∨ (65 ≤ c ∧ c ≤ 70) ∨ (70 < c ∧ c < 97) ∨ (97 ≤ c ∧ c ≤ 102) ∨ 102 < c := by omega
  rcases hcs with h | ⟨ha, hb⟩ | ⟨ha, hb⟩ | ⟨ha, hb⟩ | ⟨ha, hb⟩ | ⟨ha, hb⟩ | h
  · have R : Hid ((nv c : Int) = 0 ∧ nok c = false) := ⟨by unfold nv; split <;> (try split) <;> (try split) <;> omega, by simp [nok]; omega⟩
    have d1 : decide (48 ≤ c) = false := decide_eq_false (by omega)
    have d2 : decide (97 ≤ c) = false := decide_eq_false (by omega)
    have d3 : decide (65 ≤ c) = false := decide_eq_false (by omega)
    go_enter Ybaf.func11, Ybaf.ntmps11
    go_wp2_with fail
    go_ret2
    exact ⟨by rw [R.out.1, R.out.2]; rfl, rfl⟩
  · have R : Hid ((nv c : Int) = c - 48 ∧ nok c = true) := ⟨by unfold nv; rw [if_pos ⟨ha, hb⟩]; omega, by simp [nok]; omega⟩
    go_enter Ybaf.func11, Ybaf.ntmps11
    go_wp2_with fail
    go_ret2
    exact ⟨by rw [R.out.1, R.out.2]; rfl, rfl⟩
  · have R : Hid ((nv c : Int) = 0 ∧ nok c = false) := ⟨by unfold nv; split <;> (try split) <;> (try split) <;> omega, by simp [nok]; omega⟩
    have d1 : decide (c ≤ 57) = false := decide_eq_false (by omega)
    have d2 : decide (97 ≤ c) = false := decide_eq_false (by omega)
    have d3 : decide (65 ≤ c) = false := decide_eq_false (by omega)
    have d4 : 48 ≤ c := by omega
    go_enter Ybaf.func11, Ybaf.ntmps11
    go_wp2_with fail
    go_ret2
    exact ⟨by rw [R.out.1, R.out.2]; rfl, rfl⟩
  · have R : Hid ((nv c : Int) = c - 65 + 10 ∧ nok c = true) := ⟨by unfold nv; rw [if_neg (by omega), if_neg (by omega), if_pos ⟨ha, hb⟩]; omega, by simp [nok]; omega⟩
    have d1 : decide (c ≤ 57) = false := decide_eq_false (by omega)
    have d2 : decide (97 ≤ c) = false := decide_eq_false (by omega)
    have d4 : 48 ≤ c := by omega
    go_enter Ybaf.func11, Ybaf.ntmps11
    go_wp2_with fail
    go_ret2
    exact ⟨by rw [R.out.1, R.out.2]; rfl, rfl⟩
  · have R : Hid ((nv c : Int) = 0 ∧ nok c = false) := ⟨by unfold nv; split <;> (try split) <;> (try split) <;> omega, by simp [nok]; omega⟩
    have d1 : decide (c ≤ 57) = false := decide_eq_false (by omega)
    have d2 : decide (97 ≤ c) = false := decide_eq_false (by omega)
    have d3 : decide (c ≤ 70) = false := decide_eq_false (by omega)
    have d4 : 48 ≤ c := by omega
    have d5 : 65 ≤ c := by omega
    go_enter Ybaf.func11, Ybaf.ntmps11
    go_wp2_with fail
    go_ret2
    exact ⟨by rw [R.out.1, R.out.2]; rfl, rfl⟩
  · have R : Hid ((nv c : Int) = c - 97 + 10 ∧ nok c = true) := ⟨by unfold nv; rw [if_neg (by omega), if_pos ⟨ha, hb⟩]; omega, by simp [nok]; omega⟩
    have d1 : decide (c ≤ 57) = false := decide_eq_false (by omega)
    have d4 : 48 ≤ c := by omega
    go_enter Ybaf.func11, Ybaf.ntmps11
    go_wp2_with fail
    go_ret2
    exact ⟨by rw [R.out.1, R.out.2]; rfl, rfl⟩
  · have R : Hid ((nv c : Int) = 0 ∧ nok c = false) := ⟨by unfold nv; split <;> (try split) <;> (try split) <;> omega, by simp [nok]; omega⟩
    have d1 : decide (c ≤ 57) = false := decide_eq_false (by omega)
    have d2 : decide (c ≤ 102) = false := decide_eq_false (by omega)
    have d3 : decide (c ≤ 70) = false := decide_eq_false (by omega)
    have d4 : 48 ≤ c := by omega
    have d5 : 65 ≤ c := by omega
    have d6 : 97 ≤ c := by omega
    go_enter Ybaf.func11, Ybaf.ntmps11
    go_wp2_with fail
    go_ret2
    exact ⟨by rw [R.out.1, R.out.2]; rfl, rfl⟩
end Go.Proofs.YbulkaewgFmt
