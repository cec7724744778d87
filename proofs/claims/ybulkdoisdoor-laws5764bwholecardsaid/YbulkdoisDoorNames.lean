/-
  The walk of 'zzs5764bnames' (function 5) of seat b5764aD: three names in the order of their values; the two loops run a known number of rounds, nothing is exchanged.
-/
import Derived.Test.YbulkdoisDoorRows
import Derived.WalkKit
import Derived.WalkSpells
import Derived.RegionTactic
import Derived.Deep.QuietTactic
import Derived.BigQuiet
import Derived.Lib.Hide
namespace Go.Proofs.YbulkdoisDoor
open Go.RowKit

def sAka : ByteArray := ⟨#[101, 97, 112, 45, 97, 107, 97]⟩
def sPrime : ByteArray := ⟨#[101, 97, 112, 45, 97, 107, 97, 45, 112, 114, 105, 109, 101]⟩
def sSim : ByteArray := ⟨#[101, 97, 112, 45, 115, 105, 109]⟩

set_option maxHeartbeats 1000000 in
set_option maxRecDepth 100000 in
theorem names_any (w : World) :
    Calls Ybad.prog 5 #[] w fun e w' => e = .returned (.agg #[.string sAka, .string sPrime, .string sSim]) ∧ Below w.heap.size w w' := by
  go_enter Ybad.func5, Ybad.ntmps5
  go_wp2
  refine wp_loop_rounds 4 ?_
  rw [rounds_succ]
  go_wp2
  refine wp_loop_rounds 3 ?_
  rw [rounds_succ]
  go_wp2
  go_region
  go_wp2
  rw [rounds_succ]
  go_wp2
  go_region
  go_wp2
  rw [rounds_succ]
  go_wp2
  rw [rounds_succ]
  go_wp2
  refine wp_loop_rounds 2 ?_
  rw [rounds_succ]
  go_wp2
  go_region
  go_wp2
  rw [rounds_succ]
  go_wp2
  rw [rounds_succ]
  go_wp2
  refine wp_loop_rounds 1 ?_
  rw [rounds_succ]
  go_wp2
  rw [rounds_succ]
  go_wp2
  refine bodyPost_ret (v := .agg #[.string sAka, .string sPrime, .string sSim]) (by simp [results, Ybad.results5, go_sem, sAka, sPrime, sSim]) rfl ⟨rfl, ?_⟩
  exact ((((((Below.refl _ _).alloc (Nat.le_refl _) _).alloc (by simp) _).alloc (by simp; omega) _).drew).drew).drew
end Go.Proofs.YbulkdoisDoor
