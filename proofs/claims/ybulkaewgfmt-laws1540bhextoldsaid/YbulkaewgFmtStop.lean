/-
  fmt.Errorf over the stop: what the one call does. By the prover of seat b1540aF.
-/
import Derived.Test.YbulkaewgFmtZero
import Derived.Stop.CallBack
import Derived.Stop.IfaceNil
import GoSem.ClaimData
import Derived.Laws.Cells
import Derived.Stop.FmtTextSlices
import Derived.WalkSpells
namespace Go.Proofs
open Go.Extern.Stop Go.Stop Go.Extern

@[go_sem] theorem Ybaf.call17 (args : Array Value) (w : World) : (callFunc 17 args).run Ybaf.prog w = ((FmtStop.errorf #[9, 60] #[29] args).run Ybaf.prog w).andThen fun v w' => .ok (.value v) w' :=
  run_callFunc_extern Ybaf.func17 (by kernel_rfl) (by kernel_rfl) (by kernel_rfl) (by kernel_rfl) args w
@[go_sem] theorem Ybaf.guardF (name : String) (w : World) : (FmtStop.guard name).run Ybaf.prog w = .ok () w := by kernel_rfl
@[go_sem] theorem Ybaf.fmt0r (w : World) : (FmtDoors.printed ⟨#[109, 97, 108, 102, 111, 114, 109, 101, 100, 32, 112, 107, 116, 45, 108, 105, 110, 101, 32, 108, 101, 110, 103, 116, 104, 32, 37, 113]⟩ 1).run Ybaf.prog w = .ok [(0, 113, false)] w := by kernel_rfl
@[go_sem] theorem Ybaf.ptr43 (w : World) : (FmtStop.ptrTo "errors.errorString").run Ybaf.prog w = .ok 43 w := by kernel_rfl
@[go_sem] theorem Ybaf.elem43 (w : World) : (elemOf 43).run Ybaf.prog w = .ok 45 w := by kernel_rfl

theorem Ybaf.value5 (name : String) (x : Int) (w : World) : (FmtStop.value name FmtStop.depth 5 [.int .u8 x]).run Ybaf.prog w = .ok (digits 8 (x % 2 ^ 64).toNat) w := by kernel_rfl

theorem Ybaf.values5 (name : String) (w : World) : ∀ xs : List Int, (List.mapM ((fun c => FmtStop.value name FmtStop.depth 5 [c]) ∘ Value.int IntKind.u8) xs).run Ybaf.prog w = .ok (xs.map fun x => digits 8 (x % 18446744073709551616).toNat) w
  | [] => by simp [List.mapM_nil]
  | x :: xs => by
    have ih := Ybaf.values5 name w xs
    have h := Ybaf.value5 name x w
    simp [List.mapM_cons, h, ih, Result.andThen]

/-- what a run gave -/
def strOf (r : Result String) : String := match r with
  | .ok s _ => s
  | _ => ""

/-- a row of bytes under %q: read, whatever it reads as -/
theorem Ybaf.opBytes (name : String) (a : Addr) (cap : Nat) (xs : List Int) (w : World) (hc : ∀ j v, (xs.map (Value.int .u8))[j]? = some v → w.cell? (a.add j) = some v) :
    ∃ x y, (FmtStop.operand name true 113 false (.iface 22 (.slice (some a) xs.length cap))).run Ybaf.prog w = .ok (x, y) w := by
  obtain ⟨ts, h1⟩ : ∃ s, (typeStr 22).run Ybaf.prog w = .ok s w := ⟨strOf ((typeStr 22).run Ybaf.prog w), by kernel_rfl⟩
  have d2 : Ybaf.t22.desc = .slice 5 := rfl
  have hb : (FmtStop.bare (FmtStop.asked true 113 false) 22).run Ybaf.prog w = .ok true w := by kernel_rfl
  have hs : (FmtStop.scalar 5).run Ybaf.prog w = .ok true w := by kernel_rfl
  have hy : (Extern.Stop.isByte 5).run Ybaf.prog w = .ok true w := by kernel_rfl
  have hw : Ybaf.prog.funcs.any (·.name == FmtStop.writeWord) = true := by kernel_rfl
  have hsh : (FmtStop.shape name (FmtStop.asked true 113 false) FmtStop.depth 5).run Ybaf.prog w = .ok (6 :: FmtStop.pack "uint8".toUTF8.data.toList) w := by kernel_rfl
  have hl := run_loadCells_list (P := Ybaf.prog) w a (xs.map (Value.int .u8)) hc
  rw [List.length_map] at hl
  refine ⟨13 :: (FmtStop.pack ts.toUTF8.data.toList ++ 6 :: FmtStop.pack "uint8".toUTF8.data.toList), 1 :: (digits 8 xs.length ++ FmtText.intValues xs), ?_⟩
  simp [FmtStop.operand, h1, hb, hs, hy, hsh, hl, Ybaf.values5, FmtText.intValues]
  intro hno
  obtain ⟨i, hi, _, _, he⟩ := Array.any_iff_exists.1 hw
  exact absurd (by simpa using he) (hno i hi)
end Go.Proofs

namespace Go.Proofs.YbulkaewgFmt
open Go.RowKit Go.Extern.Stop Go.Stop Go.Extern

set_option maxHeartbeats 1000000 in
/-- the call, its one operand (four bytes) lying in the variadic slice's block: a new error of errors.New's make -/
theorem errorf_calls (F : Interp) (a : Addr) (cap : Nat) (xs : List Int) (blk : Nat) (w : World) (hF : F.answers w.tape)
    (hl : xs.length = 4) (hc : ∀ j v, (xs.map (Value.int .u8))[j]? = some v → w.cell? (a.add j) = some v)
    (hc0 : w.cell? ⟨blk, 0, none⟩ = some (.iface 22 (.slice (some a) 4 cap))) :
    Calls Ybaf.prog 15 #[.string ⟨#[109, 97, 108, 102, 111, 114, 109, 101, 100, 32, 112, 107, 116, 45, 108, 105, 110, 101, 32, 108, 101, 110, 103, 116, 104, 32, 37, 113]⟩, .slice (some ⟨blk, 0, none⟩) 1 1] w fun e w' =>
      e = .returned (.iface 43 (.pointer (some ⟨w.heap.size, 0, none⟩))) ∧ ∃ s, w' = (w.alloc (.cells #[.string s] 45)).drew := by
  have hF' := answers_open hF
  obtain ⟨x, y, hop⟩ := Ybaf.opBytes "fmt.errorf" a cap xs w hc
  rw [hl] at hop
  clear hc
  go_enter Ybaf.func15, Ybaf.ntmps15
  go_wp2
  go_ret
  exact ⟨rfl, _, rfl⟩
end Go.Proofs.YbulkaewgFmt
