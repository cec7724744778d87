/-
  Seat b5767aD: strconv.ParseUint (function 11) at base 10 (by the shelf) and at base 16 (over the walk of the inner function), 32 bits.
-/
import Derived.Test.YbulkdokiDoorHex
import Derived.Shelf.Pu.ErrVarParseUint
namespace Go.Proofs.YbulkdokiDoor
open Go.RowKit Go.Shelf
set_option linter.unusedVariables false

theorem toErr_two (fn s : ByteArray) (base bits : Int) (ev : Value) (w : World) (hlim : s.size ≤ 281474976710656) (hv : w.cell? ⟨0, 0, none⟩ = some ev) (hev : ev = .nilIface ∨ ∃ te pe, ev = .iface te pe) :
    Calls Ybad.prog 14 #[.string fn, .string s, .int .i64 base, .int .i64 bits, .iface 45 (.int .i64 2)] w fun e w' => ∃ N, e = .returned (.iface 48 (.pointer (some ⟨N, 0, none⟩))) ∧ Below w.heap.size w w' := by
  have L : LaysPu.n17 Ybad.prog Ybad.laysPu14_ren := { Ybad.laysPu14 with }
  refine Calls.mono (AnyPu.strconv_toError_syntax L fn s base bits ev w hlim hv hev) ?_
  rintro e w' ⟨N, he, _, _, hb⟩
  exact ⟨N, he, hb⟩

theorem toErr_one (fn s : ByteArray) (base bits : Int) (ev : Value) (w : World) (hlim : s.size ≤ 281474976710656) (hv : w.cell? ⟨1, 0, none⟩ = some ev) (hev : ev = .nilIface ∨ ∃ te pe, ev = .iface te pe) :
    Calls Ybad.prog 14 #[.string fn, .string s, .int .i64 base, .int .i64 bits, .iface 45 (.int .i64 1)] w fun e w' => ∃ N, e = .returned (.iface 48 (.pointer (some ⟨N, 0, none⟩))) ∧ Below w.heap.size w w' := by
  have L : LaysPu.n17 Ybad.prog Ybad.laysPu14_ren := { Ybad.laysPu14 with }
  refine Calls.mono (AnyPu.strconv_toError_range L fn s base bits ev w hlim hv hev) ?_
  rintro e w' ⟨N, he, _, _, hb⟩
  exact ⟨N, he, hb⟩

set_option maxHeartbeats 1000000 in
set_option maxRecDepth 100000 in
theorem hex_empty (w : World) : Calls Ybad.prog 13 #[.string ⟨#[]⟩, .int .i64 16, .int .i64 32] w fun e w' => e = .returned (.tuple #[.int .u64 0, .iface 45 (.int .i64 2)]) ∧ w' = w := by
  go_enter Ybad.func13, Ybad.ntmps13
  go_wp2
  go_ret2
  exact ⟨rfl, rfl⟩

theorem hex_any (t : ByteArray) (hmax : t.size ≤ 9223372036854775806) (w : World) :
    Calls Ybad.prog 13 #[.string t, .int .i64 16, .int .i64 32] w fun e w' => HexEnd (num1 16 t.data.toList) e ∧ Below w.heap.size w w' := by
  by_cases h0 : t.size = 0
  · obtain ⟨⟨l⟩⟩ := t
    have hl : l = [] := by
      have : l.length = 0 := h0
      exact List.eq_nil_of_length_eq_zero this
    subst hl
    refine (hex_empty w).mono ?_
    rintro e w' ⟨rfl, rfl⟩
    exact ⟨Or.inl rfl, Below.refl _ _⟩
  · refine (hex_inner t h0 hmax w).mono ?_
    rintro e w' ⟨he, rfl⟩
    refine ⟨?_, Lib.bytesWorld_below _ _ _⟩
    have hne : ¬ t.data.toList = [] := fun h => by
      have := congrArg List.length h
      rw [← Lib.size_eq] at this
      exact h0 this
    rw [num1, if_neg hne]
    exact he

theorem hex_ok (t : ByteArray) (hmax : t.size ≤ 9223372036854775806) (u : Nat) (h : num1 16 t.data.toList = some u) (w : World) :
    Calls Ybad.prog 13 #[.string t, .int .i64 16, .int .i64 32] w fun e w' => e = .returned (.tuple #[.int .u64 u, .nilIface]) ∧ Below w.heap.size w w' := by
  have := hex_any t hmax w
  rw [h] at this
  exact this

theorem hex_err (t : ByteArray) (hmax : t.size ≤ 9223372036854775806) (h : num1 16 t.data.toList = none) (w : World) :
    Calls Ybad.prog 13 #[.string t, .int .i64 16, .int .i64 32] w fun e w' => ∃ n c, e = .returned (.tuple #[.int .u64 n, .iface 45 (.int .i64 c)]) ∧ (c = 2 ∨ c = 1) ∧ Below w.heap.size w w' := by
  have := hex_any t hmax w
  rw [h] at this
  refine this.mono ?_
  rintro e w' ⟨he, hb⟩
  rcases he with he | he
  · exact ⟨_, _, he, Or.inl rfl, hb⟩
  · exact ⟨_, _, he, Or.inr rfl, hb⟩

/-- The name that the library hands to its own error. -/
def fnName : ByteArray := ⟨#[80, 97, 114, 115, 101, 85, 105, 110, 116]⟩

set_option maxHeartbeats 1000000 in
set_option maxRecDepth 100000 in
theorem pub16_ok (s : ByteArray) (hlim : s.size ≤ 281474976710656) (u : Nat) (h : num1 16 s.data.toList = some u) (w : World) :
    Calls Ybad.prog 11 #[.string s, .int .i64 16, .int .i64 32] w fun e w' => e = .returned (.tuple #[.int .u64 u, .nilIface]) ∧ Below w.heap.size w w' := by
  have H := Lib.hid h
  clear h
  go_enter Ybad.func11, Ybad.ntmps11
  go_wp2_with (go_at_call 13; refine (hex_ok s (by omega) u H.out _).mono ?_; rintro e w1 ⟨rfl, hb⟩)
  go_ret2
  exact ⟨rfl, hb⟩

set_option maxHeartbeats 1000000 in
set_option maxRecDepth 100000 in
theorem pub16_err (s : ByteArray) (hlim : s.size ≤ 281474976710656) (h : num1 16 s.data.toList = none) (ev0 ev1 : Value) (w : World)
    (hv0 : w.cell? ⟨0, 0, none⟩ = some ev0) (he0 : ev0 = .nilIface ∨ ∃ te pe, ev0 = .iface te pe) (hv1 : w.cell? ⟨1, 0, none⟩ = some ev1) (he1 : ev1 = .nilIface ∨ ∃ te pe, ev1 = .iface te pe) :
    Calls Ybad.prog 11 #[.string s, .int .i64 16, .int .i64 32] w fun e w' => ∃ n N, e = .returned (.tuple #[.int .u64 n, .iface 48 (.pointer (some ⟨N, 0, none⟩))]) ∧ Below w.heap.size w w' := by
  have H := Lib.hid h
  have V0 := Lib.hid hv0
  have V1 := Lib.hid hv1
  have E0 := Lib.hid he0
  have E1 := Lib.hid he1
  have g0 : 0 < w.heap.size := World.block_lt_of_cell? w ⟨0, 0, none⟩ hv0
  have g1 : 1 < w.heap.size := World.block_lt_of_cell? w ⟨1, 0, none⟩ hv1
  clear h hv0 hv1 he0 he1
  go_enter Ybad.func11, Ybad.ntmps11
  go_wp2_with (go_at_call 13; refine (hex_err s (by omega) H.out _).mono ?_; rintro e w1 ⟨n, c, rfl, hc, hb⟩; refine Hid.out ?_)
  refine Lib.hid ?_
  rcases hc with rfl | rfl
  · have W0 := Lib.hid ((hb.cell (p := ⟨0, 0, none⟩) g0).trans V0.out)
    go_wp2_with (go_at_call 14; refine (toErr_two fnName s 16 32 ev0 _ hlim W0.out E0.out).mono ?_; rintro e w2 ⟨N, rfl, hb2⟩)
    go_ret2
    exact ⟨_, N, rfl, hb.trans (hb2.mono hb.size)⟩
  · have W1 := Lib.hid ((hb.cell (p := ⟨1, 0, none⟩) g1).trans V1.out)
    go_wp2_with (go_at_call 14; refine (toErr_one fnName s 16 32 ev1 _ hlim W1.out E1.out).mono ?_; rintro e w2 ⟨N, rfl, hb2⟩)
    go_ret2
    exact ⟨_, N, rfl, hb.trans (hb2.mono hb.size)⟩

theorem got_some {e : Lib.NumEnd Nat} {u : Nat} (h : got e = some u) : e = .ok u := by
  rcases e with v | _ | _
  · have : v = u := by simpa [got] using h
    rw [this]
  · cases h
  · cases h

theorem pub10_ok (s : ByteArray) (hlim : s.size ≤ 281474976710656) (u : Nat) (h : num1 10 s.data.toList = some u) (w : World) :
    Calls Ybad.prog 11 #[.string s, .int .i64 10, .int .i64 32] w fun e w' => e = .returned (.tuple #[.int .u64 u, .nilIface]) ∧ Below w.heap.size w w' := by
  rw [← tie10B] at h
  refine Calls.mono (Any.strconv_ParseUint_10_at32_ok Ybad.laysPu14 s (by omega) u (got_some h) w) ?_
  rintro e w' ⟨he, hw⟩
  refine ⟨he, ?_⟩
  rcases hw with rfl | rfl
  · exact Below.refl _ _
  · exact Lib.bytesWorld_below _ _ _

theorem pub10_err (s : ByteArray) (hlim : s.size ≤ 281474976710656) (h : num1 10 s.data.toList = none) (ev0 ev1 : Value) (w : World)
    (hv0 : w.cell? ⟨0, 0, none⟩ = some ev0) (he0 : ev0 = .nilIface ∨ ∃ te pe, ev0 = .iface te pe) (hv1 : w.cell? ⟨1, 0, none⟩ = some ev1) (he1 : ev1 = .nilIface ∨ ∃ te pe, ev1 = .iface te pe) :
    Calls Ybad.prog 11 #[.string s, .int .i64 10, .int .i64 32] w fun e w' => ∃ n N, e = .returned (.tuple #[.int .u64 n, .iface 48 (.pointer (some ⟨N, 0, none⟩))]) ∧ Below w.heap.size w w' := by
  rw [← tie10B] at h
  rcases hh : Lib.parseUintB 32 s.data.toList with v | _ | _
  · rw [hh] at h
    cases h
  · refine Calls.mono (Any.strconv_ParseUint_10_at32_syntax Ybad.laysPu14 s hlim hh ev0 w hv0 he0) ?_
    rintro e w' ⟨N, he, _, _, hb⟩
    exact ⟨_, N, he, hb⟩
  · refine Calls.mono (Any.strconv_ParseUint_10_at32_range Ybad.laysPu14 s hlim hh ev1 w hv1 he1) ?_
    rintro e w' ⟨N, he, _, _, hb⟩
    exact ⟨_, N, he, hb⟩
end Go.Proofs.YbulkdokiDoor
