/-
  Seat b5769a: the walks of the item's methods (functions 4, 6) and of bytes.Equal (function 5).
-/
import Derived.Test.YbulkdolkRows
import Derived.WalkKit
import Derived.WalkSpells
import Derived.BigCall
import Derived.BigGuard
import Derived.Lib.Hide
import Derived.Lib.SliceRun
import Derived.Laws.IdiomStrings
import Derived.Laws.BytesArg
namespace Go.Proofs.Ybulkdolk
open Go.RowKit
set_option linter.unusedVariables false

/-- 'expected a byte string' -/
def rWant : ByteArray := ⟨#[101, 120, 112, 101, 99, 116, 101, 100, 32, 97, 32, 98, 121, 116, 101, 32, 115, 116, 114, 105, 110, 103]⟩
/-- 'integer has leading zero bytes' -/
def rZeros : ByteArray := ⟨#[105, 110, 116, 101, 103, 101, 114, 32, 104, 97, 115, 32, 108, 101, 97, 100, 105, 110, 103, 32, 122, 101, 114, 111, 32, 98, 121, 116, 101, 115]⟩

set_option maxHeartbeats 1000000 in
set_option maxRecDepth 100000 in
theorem item_list (k off coff dep md : Int) (a1 a2 : Option Addr) (l1 c1 l2 c2 : Nat) (hk : (k != 0) = true) (w : World) :
    Calls Yba.prog 4 #[.agg #[.int .i64 k, .slice a1 l1 c1, .slice a2 l2 c2, .int .i64 off, .int .i64 coff, .int .i64 dep, .int .i64 md]] w fun e w' =>
      ∃ N, e = .returned (.tuple #[.slice none 0 0, .iface 35 (.pointer (some ⟨N, 0, none⟩))]) ∧ N < w'.heap.size ∧ w'.cell? ⟨N, 0, none⟩ = some (.int .i64 off) ∧ w'.cell? ⟨N, 1, none⟩ = some (.string rWant) ∧ Below w.heap.size w w' := by
  go_enter Yba.func4, Yba.ntmps4
  go_wp2
  go_ret2
  refine ⟨w.heap.size + 1 + 1 + 1, rfl, by simp, ?_, ?_, ?_⟩
  · go_simp
  · go_simp
    rfl
  · exact ((((Below.refl _ _).alloc (Nat.le_refl _) _).alloc (by simp) _).alloc (by simp; omega) _).alloc (by simp; omega) _

set_option maxHeartbeats 1000000 in
set_option maxRecDepth 100000 in
theorem item_zero (k off coff dep md : Int) (b o : Nat) (a2 : Option Addr) (l1 c1 l2 c2 : Nat) (hk : (k != 0) = false) (hl : (0 : Int) < (l1 : Int)) (w : World) (hc : w.cell? ⟨b, o, none⟩ = some (.int .u8 0)) :
    Calls Yba.prog 4 #[.agg #[.int .i64 k, .slice (some ⟨b, o, none⟩) l1 c1, .slice a2 l2 c2, .int .i64 off, .int .i64 coff, .int .i64 dep, .int .i64 md]] w fun e w' =>
      ∃ N, e = .returned (.tuple #[.slice none 0 0, .iface 35 (.pointer (some ⟨N, 0, none⟩))]) ∧ N < w'.heap.size ∧ w'.cell? ⟨N, 0, none⟩ = some (.int .i64 off) ∧ w'.cell? ⟨N, 1, none⟩ = some (.string rZeros) ∧ Below w.heap.size w w' := by
  have hb : b < w.heap.size := World.block_lt_of_cell? w ⟨b, o, none⟩ hc
  go_enter Yba.func4, Yba.ntmps4
  go_wp2
  go_ret2
  refine ⟨w.heap.size + 1 + 1 + 1, rfl, by simp, ?_, ?_, ?_⟩
  · go_simp
  · go_simp
    rfl
  · exact ((((Below.refl _ _).alloc (Nat.le_refl _) _).alloc (by simp) _).alloc (by simp; omega) _).alloc (by simp; omega) _

set_option maxHeartbeats 1000000 in
set_option maxRecDepth 100000 in
theorem item_good (k off coff dep md : Int) (b o : Nat) (a2 : Option Addr) (l1 c1 l2 c2 : Nat) (hk : (k != 0) = false) (hl : (0 : Int) < (l1 : Int)) (x : Int) (hx : (x == 0) = false) (w : World) (hc : w.cell? ⟨b, o, none⟩ = some (.int .u8 x)) :
    Calls Yba.prog 4 #[.agg #[.int .i64 k, .slice (some ⟨b, o, none⟩) l1 c1, .slice a2 l2 c2, .int .i64 off, .int .i64 coff, .int .i64 dep, .int .i64 md]] w fun e w' =>
      e = .returned (.tuple #[.slice (some ⟨b, o, none⟩) l1 c1, .nilIface]) ∧ Below w.heap.size w w' := by
  have hb : b < w.heap.size := World.block_lt_of_cell? w ⟨b, o, none⟩ hc
  go_enter Yba.func4, Yba.ntmps4
  go_wp2
  go_ret2
  exact ⟨rfl, ((Below.refl _ _).alloc (Nat.le_refl _) _).alloc (by simp) _⟩

set_option maxHeartbeats 1000000 in
set_option maxRecDepth 100000 in
theorem item_empty (k off coff dep md : Int) (a1 a2 : Option Addr) (c1 l2 c2 : Nat) (hk : (k != 0) = false) (w : World) :
    Calls Yba.prog 4 #[.agg #[.int .i64 k, .slice a1 0 c1, .slice a2 l2 c2, .int .i64 off, .int .i64 coff, .int .i64 dep, .int .i64 md]] w fun e w' =>
      e = .returned (.tuple #[.slice a1 0 c1, .nilIface]) ∧ Below w.heap.size w w' := by
  go_enter Yba.func4, Yba.ntmps4
  go_wp2
  go_ret2
  exact ⟨rfl, ((Below.refl _ _).alloc (Nat.le_refl _) _).alloc (by simp) _⟩

set_option maxHeartbeats 1000000 in
set_option maxRecDepth 100000 in
theorem refused_yes (N : Nat) (off : Int) (r : ByteArray) (w : World) (h0 : w.cell? ⟨N, 0, none⟩ = some (.int .i64 off)) (h1 : w.cell? ⟨N, 1, none⟩ = some (.string r)) :
    Calls Yba.prog 6 #[.iface 35 (.pointer (some ⟨N, 0, none⟩)), .int .i64 off, .string r] w fun e w' => e = .returned (.bool true) ∧ w' = w := by
  have hta : ∀ (a : Addr) (w : World), (Instr.typeAssert (.iface 35 (.pointer (some a))) 27 35 true).run Yba.prog w = .ok (.tuple #[.pointer (some a), .bool true]) w := fun _ _ => by kernel_rfl
  go_enter Yba.func6, Yba.ntmps6
  go_wp2
  go_ret
  exact ⟨rfl, rfl⟩

set_option maxHeartbeats 1000000 in
set_option maxRecDepth 100000 in
theorem equal_yes (v1 v2 : Value) (s : ByteArray) (w : World) (h1 : (convert 22 9 v1).run Yba.prog w = .ok (.string s) w) (h2 : (convert 22 9 v2).run Yba.prog w = .ok (.string s) w) :
    Calls Yba.prog 5 #[v1, v2] w fun e w' => e = .returned (.bool true) ∧ w' = w := by
  go_enter Yba.func5, Yba.ntmps5
  go_wp2
  go_ret
  exact ⟨rfl, rfl⟩
end Go.Proofs.Ybulkdolk
