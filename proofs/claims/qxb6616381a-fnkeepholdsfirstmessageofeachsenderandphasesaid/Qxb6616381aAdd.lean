/-
  seat b6616381a: idSet.add.
-/
import Derived.Test.Qxb6616381aNewB
import Derived.Test.Qxb6616381aModel
import Derived.BigRegion
import Derived.Deep.QuietTactic
import Derived.BigQuiet
import Derived.Deep.RegionHeld3
import Derived.Deep.RegionWith
import Derived.Maps.OwnSet
import Derived.Maps.OwnOps
namespace Go.Proofs.Qxb6616381a
open Go.RowKit
set_option linter.unusedVariables false

theorem or_word' (y t : Nat) (hy : y < 18446744073709551616) (ht : t < 18446744073709551616) : bits BinOp.or IntKind.u64 (y : Int) (IntKind.u64.wrap (t : Int)) = ((y ||| t : Nat) : Int) := by
  rw [IntWalk.u64_in _ (by omega), u64_or_nat y t hy ht]
theorem or_word (y s : Nat) (hy : y < 18446744073709551616) (hs : s < 64) : bits BinOp.or IntKind.u64 (y : Int) (IntKind.u64.wrap (2 ^ s)) = ((y ||| 2 ^ s : Nat) : Int) := by
  have e : ((2 : Int) ^ s) = ((2 ^ s : Nat) : Int) := by simp
  rw [e]
  exact or_word' y (2 ^ s) hy (Nat.pow_lt_pow_right (by decide) hs)

/-- What idSet.add leaves. -/
def AddPost (f k y s : Nat) (w w' : World) : Prop := w' = (w.setCell ⟨f, k, none⟩ (.int .u64 (y ||| 2 ^ s : Nat))).drew

set_option maxHeartbeats 800000 in
theorem add_any (f W j y : Nat) (w : World) (hj : j < 65536) (hW : j / 64 < W) (hy : y < 18446744073709551616) (hc : w.cell? ⟨f, j / 64, none⟩ = some (.int .u64 y)) (hf : w.frozen? ⟨f, j / 64, none⟩ = false) :
    Calls Try.prog 18 #[.slice (some ⟨f, 0, none⟩) W W, .int .i64 j] w fun e w' => e = .returned (.tuple #[]) ∧ AddPost f (j / 64) y (j % 64) w w' := by
  have i1 : ((j / 64 : Nat) : Int) < (W : Int) := by omega
  have HY : Hid (bits BinOp.or IntKind.u64 (y : Int) (IntKind.u64.wrap (2 ^ (j % 64))) = ((y ||| 2 ^ (j % 64) : Nat) : Int)) := or_word y (j % 64) hy (by omega)
  clear hy
  go_enter Try.func18, Try.ntmps18
  go_wp2
  go_region
  go_end0
  refine ⟨rfl, ?_⟩
  unfold AddPost
  rw [HY.out]
end Go.Proofs.Qxb6616381a
