/-
  Seat b5765aD: the walk of 'parsePeriod' (function 5), over the shelf's contract of strconv.Atoi.
-/
import Derived.Test.YbulkdojgDoorRows
import Derived.Test.YbulkdojgDoorShelf
import Derived.Test.YbulkdojgDoorPlain
import Derived.Lib.AtoiErrMem
import Derived.WalkKit
import Derived.WalkSpells
import Derived.BigCall
import Derived.Lib.Hide
namespace Go.Proofs.YbulkdojgDoor
open Go.RowKit Go.Shelf
set_option linter.unusedVariables false

theorem atoi_ok (s : ByteArray) (hlim : s.size ≤ 281474976710656) (v : Int) (h : Lib.atoiAll s.data.toList = .ok v) (w : World) :
    Calls Ybad.prog 7 #[.string s] w fun e w' => e = .returned (.tuple #[.int .i64 v, .nilIface]) ∧ Below w.heap.size w w' := by
  have hc : Calls Ybad.prog 7 #[.string s] w fun e w' => e = .returned (.tuple #[.int .i64 v, .nilIface]) ∧ (w' = w ∨ ∃ t, w' = Lib.bytesWorld w 5 t) := Any.strconv_Atoi_ok Ybad.laysC172 s (by omega) v h w
  refine hc.mono ?_
  rintro e w' ⟨he, hw⟩
  refine ⟨he, ?_⟩
  rcases hw with rfl | ⟨t, rfl⟩
  · exact Below.refl _ _
  · exact Lib.bytesWorld_below _ _ _

/-- Whatever the fault: an error that is not nil. -/
theorem atoi_err (s : ByteArray) (hlim : s.size ≤ 281474976710656) (h : ∀ v, Lib.atoiAll s.data.toList ≠ .ok v) (tp tq : TypeId) (p q : Value) (w : World)
    (hv0 : w.var? Ybad.prog "strconv.ErrSyntax" = some #[.iface tp p]) (hv1 : w.var? Ybad.prog "strconv.ErrRange" = some #[.iface tq q]) :
    Calls Ybad.prog 7 #[.string s] w fun e w' => ∃ n N, e = .returned (.tuple #[.int .i64 n, .iface 38 (.pointer (some ⟨N, 0, none⟩))]) ∧ Below w.heap.size w w' := by
  rcases hh : Lib.atoiAll s.data.toList with v | _ | _
  · exact absurd hh (h v)
  · refine Calls.mono (Any.strconv_Atoi_syntax_var Ybad.laysC172 s hlim hh tp p w hv0) ?_
    rintro e w' ⟨N, he, _, _, hb⟩
    exact ⟨_, N, he, hb⟩
  · refine Calls.mono (Any.strconv_Atoi_range_var Ybad.laysC172 s hlim hh tq q w hv1) ?_
    rintro e w' ⟨N, he, _, _, hb⟩
    exact ⟨_, N, he, hb⟩

theorem period_some {l : List UInt8} {mx v : Int} (h : period l mx = some v) : Lib.atoiAll l = .ok v ∧ 1 ≤ v ∧ v ≤ mx := by
  unfold period at h
  rcases e : Lib.atoiAll l with u | _ | _
  · rw [e] at h
    simp only at h
    split at h
    · cases h
    · injection h with h
      subst h
      exact ⟨rfl, by omega, by omega⟩
  · rw [e] at h; cases h
  · rw [e] at h; cases h

theorem period_none {l : List UInt8} {mx : Int} (h : period l mx = none) : (∀ v, Lib.atoiAll l ≠ .ok v) ∨ ∃ v, Lib.atoiAll l = .ok v ∧ (v < 1 ∨ mx < v) := by
  unfold period at h
  rcases e : Lib.atoiAll l with u | _ | _
  · rw [e] at h
    simp only at h
    split at h
    · exact Or.inr ⟨u, rfl, by assumption⟩
    · cases h
  · exact Or.inl (fun v hv => by cases hv)
  · exact Or.inl (fun v hv => by cases hv)

set_option maxHeartbeats 1000000 in
set_option maxRecDepth 100000 in
theorem parse_yes (s : ByteArray) (mx v : Int) (hlim : s.size ≤ 281474976710656) (h : period s.data.toList mx = some v) (w : World) :
    Calls Ybad.prog 5 #[.string s, .int .i64 mx] w fun e w' => e = .returned (.tuple #[.int .i64 v, .nilIface]) ∧ Below w.heap.size w w' := by
  obtain ⟨ha, h1, h2⟩ := period_some h
  have HA := Lib.hid ha
  have i1 : ¬ v < 1 := by omega
  have i2 : ¬ mx < v := by omega
  clear h ha
  go_enter Ybad.func5, Ybad.ntmps5
  go_wp2_with (go_at_call 7; refine (atoi_ok s hlim v HA.out _).mono ?_; rintro e w' ⟨rfl, hb⟩)
  go_ret2
  exact ⟨rfl, hb⟩

set_option maxHeartbeats 1000000 in
set_option maxRecDepth 100000 in
theorem parse_no (s : ByteArray) (mx : Int) (hlim : s.size ≤ 281474976710656) (h : period s.data.toList mx = none) (tp tq : TypeId) (p q : Value) (w : World)
    (hv0 : w.var? Ybad.prog "strconv.ErrSyntax" = some #[.iface tp p]) (hv1 : w.var? Ybad.prog "strconv.ErrRange" = some #[.iface tq q]) :
    Calls Ybad.prog 5 #[.string s, .int .i64 mx] w fun e w' => e = .returned (.tuple #[.int .i64 0, .iface 28 (.int .i64 37)]) ∧ Below w.heap.size w w' := by
  have H0 := Lib.hid hv0
  have H1 := Lib.hid hv1
  clear hv0 hv1
  rcases period_none h with ha | ⟨v, ha, hr⟩
  · have HA := Lib.hid ha
    clear h ha
    go_enter Ybad.func5, Ybad.ntmps5
    go_wp2_with (go_at_call 7; refine (atoi_err s hlim HA.out tp tq p q _ H0.out H1.out).mono ?_; rintro e w' ⟨n, N, rfl, hb⟩)
    go_ret2
    exact ⟨rfl, hb⟩
  · have HA := Lib.hid ha
    clear h ha
    by_cases hv : v < 1
    · clear hr
      go_enter Ybad.func5, Ybad.ntmps5
      go_wp2_with (go_at_call 7; refine (atoi_ok s hlim v HA.out _).mono ?_; rintro e w' ⟨rfl, hb⟩)
      go_ret2
      exact ⟨rfl, hb⟩
    · have hm : mx < v := by omega
      clear hr
      go_enter Ybad.func5, Ybad.ntmps5
      go_wp2_with (go_at_call 7; refine (atoi_ok s hlim v HA.out _).mono ?_; rintro e w' ⟨rfl, hb⟩)
      go_ret2
      exact ⟨rfl, hb⟩

end Go.Proofs.YbulkdojgDoor
