/-
  The walk of 'ParseEAPMethod' (function 4) of seat b5764aD.
-/
import Derived.Test.YbulkdoisDoorNames
import Derived.Test.YbulkdoisDoorShelf
namespace Go.Proofs.YbulkdoisDoor
open Go.RowKit
set_option linter.unusedVariables false

/-- strings.Join at the three names: the contract, its answer written out. -/
theorem join3 (W : World) (bk : Nat) (hbk : bk < W.heap.size) (c0 : W.cell? ⟨bk, 0, none⟩ = some (.string ⟨#[101, 97, 112, 45, 97, 107, 97]⟩)) (c1 : W.cell? ⟨bk, 1, none⟩ = some (.string ⟨#[101, 97, 112, 45, 97, 107, 97, 45, 112, 114, 105, 109, 101]⟩)) (c2 : W.cell? ⟨bk, 2, none⟩ = some (.string ⟨#[101, 97, 112, 45, 115, 105, 109]⟩)) :
    Calls Ybad.prog 7 #[.slice (some ⟨bk, 0, none⟩) 3 4, .string ⟨#[44, 32]⟩] W fun e w' => e = .returned (.string ⟨#[101, 97, 112, 45, 97, 107, 97, 44, 32, 101, 97, 112, 45, 97, 107, 97, 45, 112, 114, 105, 109, 101, 44, 32, 101, 97, 112, 45, 115, 105, 109]⟩) ∧ Below W.heap.size W w' := by
  have h := Ybad.strings_Join bk 0 4 [⟨#[101, 97, 112, 45, 97, 107, 97]⟩, ⟨#[101, 97, 112, 45, 97, 107, 97, 45, 112, 114, 105, 109, 101]⟩, ⟨#[101, 97, 112, 45, 115, 105, 109]⟩] ⟨#[44, 32]⟩ W
    (by
      intro j x hx
      match j, hx with
      | 0, hx => simp at hx; subst hx; exact c0
      | 1, hx => simp at hx; subst hx; exact c1
      | 2, hx => simp at hx; subst hx; exact c2
      | j + 3, hx => simp at hx)
    hbk (by decide) (by decide) (by decide)
  exact h

set_option maxHeartbeats 1000000 in
set_option maxRecDepth 100000 in
theorem parse_aka (w : World) (hw : 0 < w.heap.size) (h1 : w.cell? ⟨0, 3, none⟩ = some (.string ⟨#[101, 97, 112, 45, 97, 107, 97]⟩)) :
    Calls Ybad.prog 4 #[.string ⟨#[101, 97, 112, 45, 97, 107, 97]⟩] w fun e w' => e = .returned (.tuple #[.int .i64 1, .nilIface]) ∧ Below w.heap.size w w' := by
  have hmk : ∀ w, (Instr.makeSlice 34 (.int .i64 0) (.int .i64 4)).run Ybad.prog w = .ok (.slice (some ⟨w.heap.size, 0, none⟩) 0 4) (w.alloc (.cells #[.string ⟨#[]⟩, .string ⟨#[]⟩, .string ⟨#[]⟩, .string ⟨#[]⟩] 9)) := fun _ => by kernel_rfl
  go_enter Ybad.func4, Ybad.ntmps4
  go_wp2
  refine wp_loop_rounds 1 ?_
  rw [rounds_succ]
  go_wp2
  go_ret2
  exact ⟨rfl, (Below.refl _ _).alloc (Nat.le_refl _) _⟩

set_option maxHeartbeats 1000000 in
set_option maxRecDepth 100000 in
theorem parse_prime (w : World) (hw : 0 < w.heap.size) (h1 : w.cell? ⟨0, 3, none⟩ = some (.string ⟨#[101, 97, 112, 45, 97, 107, 97]⟩)) (h2 : w.cell? ⟨0, 6, none⟩ = some (.string ⟨#[101, 97, 112, 45, 97, 107, 97, 45, 112, 114, 105, 109, 101]⟩)) :
    Calls Ybad.prog 4 #[.string ⟨#[101, 97, 112, 45, 97, 107, 97, 45, 112, 114, 105, 109, 101]⟩] w fun e w' => e = .returned (.tuple #[.int .i64 2, .nilIface]) ∧ Below w.heap.size w w' := by
  have hmk : ∀ w, (Instr.makeSlice 34 (.int .i64 0) (.int .i64 4)).run Ybad.prog w = .ok (.slice (some ⟨w.heap.size, 0, none⟩) 0 4) (w.alloc (.cells #[.string ⟨#[]⟩, .string ⟨#[]⟩, .string ⟨#[]⟩, .string ⟨#[]⟩] 9)) := fun _ => by kernel_rfl
  go_enter Ybad.func4, Ybad.ntmps4
  go_wp2
  refine wp_loop_rounds 2 ?_
  rw [rounds_succ]
  go_wp2
  rw [rounds_succ]
  go_wp2
  go_ret2
  exact ⟨rfl, (((Below.refl _ _).alloc (Nat.le_refl _) _).alloc (by simp) _)⟩

set_option maxHeartbeats 1000000 in
set_option maxRecDepth 100000 in
theorem parse_sim (w : World) (hw : 0 < w.heap.size) (h1 : w.cell? ⟨0, 3, none⟩ = some (.string ⟨#[101, 97, 112, 45, 97, 107, 97]⟩)) (h2 : w.cell? ⟨0, 6, none⟩ = some (.string ⟨#[101, 97, 112, 45, 97, 107, 97, 45, 112, 114, 105, 109, 101]⟩)) (h3 : w.cell? ⟨0, 9, none⟩ = some (.string ⟨#[101, 97, 112, 45, 115, 105, 109]⟩)) :
    Calls Ybad.prog 4 #[.string ⟨#[101, 97, 112, 45, 115, 105, 109]⟩] w fun e w' => e = .returned (.tuple #[.int .i64 3, .nilIface]) ∧ Below w.heap.size w w' := by
  have hmk : ∀ w, (Instr.makeSlice 34 (.int .i64 0) (.int .i64 4)).run Ybad.prog w = .ok (.slice (some ⟨w.heap.size, 0, none⟩) 0 4) (w.alloc (.cells #[.string ⟨#[]⟩, .string ⟨#[]⟩, .string ⟨#[]⟩, .string ⟨#[]⟩] 9)) := fun _ => by kernel_rfl
  go_enter Ybad.func4, Ybad.ntmps4
  go_wp2
  refine wp_loop_rounds 3 ?_
  rw [rounds_succ]
  go_wp2
  rw [rounds_succ]
  go_wp2
  rw [rounds_succ]
  go_wp2
  go_ret2
  exact ⟨rfl, ((((Below.refl _ _).alloc (Nat.le_refl _) _).alloc (by simp) _).alloc (by simp; omega) _)⟩

set_option maxHeartbeats 1000000 in
set_option maxRecDepth 100000 in
theorem parse_else (s : ByteArray) (w : World) (hw : 0 < w.heap.size) (n1 : (s.toList == [101, 97, 112, 45, 97, 107, 97]) = false) (n2 : (s.toList == [101, 97, 112, 45, 97, 107, 97, 45, 112, 114, 105, 109, 101]) = false) (n3 : (s.toList == [101, 97, 112, 45, 115, 105, 109]) = false)
    (h1 : w.cell? ⟨0, 3, none⟩ = some (.string ⟨#[101, 97, 112, 45, 97, 107, 97]⟩)) (h2 : w.cell? ⟨0, 6, none⟩ = some (.string ⟨#[101, 97, 112, 45, 97, 107, 97, 45, 112, 114, 105, 109, 101]⟩)) (h3 : w.cell? ⟨0, 9, none⟩ = some (.string ⟨#[101, 97, 112, 45, 115, 105, 109]⟩)) :
    Calls Ybad.prog 4 #[.string s] w fun e w' => ∃ N, e = .returned (.tuple #[.int .i64 0, .iface 27 (.pointer (some ⟨N, 0, none⟩))]) ∧ N < w'.heap.size
      ∧ w'.cell? ⟨N, 0, none⟩ = some (.string ⟨#[69, 65, 80, 32, 109, 101, 116, 104, 111, 100]⟩) ∧ w'.cell? ⟨N, 1, none⟩ = some (.string s)
      ∧ w'.cell? ⟨N, 2, none⟩ = some (.string ⟨#[119, 97, 110, 116, 32, 111, 110, 101, 32, 111, 102, 32, 101, 97, 112, 45, 97, 107, 97, 44, 32, 101, 97, 112, 45, 97, 107, 97, 45, 112, 114, 105, 109, 101, 44, 32, 101, 97, 112, 45, 115, 105, 109]⟩) ∧ w'.cell? ⟨N, 3, none⟩ = some (.int .i64 0) ∧ Below w.heap.size w w' := by
  have hmk : ∀ w, (Instr.makeSlice 34 (.int .i64 0) (.int .i64 4)).run Ybad.prog w = .ok (.slice (some ⟨w.heap.size, 0, none⟩) 0 4) (w.alloc (.cells #[.string ⟨#[]⟩, .string ⟨#[]⟩, .string ⟨#[]⟩, .string ⟨#[]⟩] 9)) := fun _ => by kernel_rfl
  go_enter Ybad.func4, Ybad.ntmps4
  go_wp2
  refine wp_loop_rounds 4 ?_
  rw [rounds_succ]
  go_wp2
  rw [rounds_succ]
  go_wp2
  rw [rounds_succ]
  go_wp2
  rw [rounds_succ]
  go_wp2_with (first | (go_at_call 6; go_in) | (go_at_call 7; refine (join3 _ _ ?_ ?_ ?_ ?_).mono ?_))
  case refine_1 => simp; omega
  case refine_2 => go_simp
  case refine_3 => go_simp
  case refine_4 => go_simp
  rintro e w1 ⟨rfl, hb⟩
  have hcat : (⟨#[119, 97, 110, 116, 32, 111, 110, 101, 32, 111, 102, 32]⟩ : ByteArray) ++ ⟨#[101, 97, 112, 45, 97, 107, 97, 44, 32, 101, 97, 112, 45, 97, 107, 97, 45, 112, 114, 105, 109, 101, 44, 32, 101, 97, 112, 45, 115, 105, 109]⟩
      = ⟨#[119, 97, 110, 116, 32, 111, 110, 101, 32, 111, 102, 32, 101, 97, 112, 45, 97, 107, 97, 44, 32, 101, 97, 112, 45, 97, 107, 97, 45, 112, 114, 105, 109, 101, 44, 32, 101, 97, 112, 45, 115, 105, 109]⟩ := by kernel_rfl
  go_wp2
  go_ret2
  have hbw : Below w.heap.size w w1 := by
    refine Below.trans ?_ (hb.mono (by simp; omega))
    exact ((((Below.refl _ _).alloc (Nat.le_refl _) _).alloc (by simp) _).alloc (by simp; omega) _).alloc (by simp; omega) _
  refine ⟨w1.heap.size, rfl, by simp, ?_, ?_, ?_, ?_, hbw.alloc hbw.size _⟩
  all_goals go_simp
end Go.Proofs.YbulkdoisDoor
