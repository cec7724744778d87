/-
  Seat b5769a: the walk of the law (function 3).
-/
import Derived.Test.YbulkdolkItem
import Derived.OwnWalk
import Derived.Laws.CopyOwn
import Derived.Lib.Builder
import Derived.RegionTactic
import Derived.Deep.QuietTactic
import Derived.BigQuiet
namespace Go.Proofs.Ybulkdolk
open Go.RowKit
set_option linter.unusedVariables false

/-- The cells of a row of bytes. -/
def bcs (l : List UInt8) : List Value := l.map fun b => Value.int .u8 b.toNat

theorem infoByte : (Yba.prog.info? 5).map (fun i => (i.zero, i.size, i.bytes)) = some (some (.int .u8 0), 1, 1) := by kernel_rfl
theorem sizeByte : (Yba.prog.info? 5).map (·.size) = some 1 := by kernel_rfl

/-- What the walk is told of the content: its bytes, where they lie. -/
def Holds (w : World) (a : Option Addr) (l : List UInt8) : Prop :=
  (a = none → l = []) ∧ ∀ x, a = some x → ∀ (j : Nat) (hj : j < l.length), w.cell? (x.add j) = some (.int .u8 ((l[j]'hj).toNat : Int))

theorem made_open {w w1 : World} {n : Nat} {xs : List Value} (h : w1.ownsRow w.heap.size 5 1 (.slice (some ⟨w.heap.size, 0, none⟩) n n) n xs) : ∃ cur : List Value, w1.heap[w.heap.size]? = some (.cells cur.toArray 5 (0, 0)) ∧ cur.length = n := by
  rcases h.2 with ⟨h0, _⟩ | ⟨g, cap, cur, hv, _, hh, _, _, hs, _⟩
  · cases h0
  · simp only [Value.slice.injEq, Option.some.injEq, Addr.mk.injEq] at hv
    obtain ⟨⟨rfl, _⟩, _, rfl⟩ := hv
    exact ⟨cur.toList, by simpa using hh, by simpa using hs⟩

theorem bcs_one (l : List UInt8) : ∀ v ∈ bcs l, v.oneCell' = true := by
  intro v hv
  simp only [bcs, List.mem_map] at hv
  obtain ⟨b, _, rfl⟩ := hv
  rfl

theorem holds_cell {w w1 : World} {a : Option Addr} {l : List UInt8} (hH : Holds w a l) (hb : Below w.heap.size w w1) {x : Addr} (hx : a = some x) (j : Nat) (hj : j < l.length) : w1.cell? (x.add j) = some (.int .u8 ((l[j]'hj).toNat : Int)) := by
  have h := hH.2 x hx j hj
  exact (hb.cell (World.block_lt_of_cell? w _ h)).trans h

theorem copy_run {w w1 : World} {a : Option Addr} {l : List UInt8} {cur : List Value} (c1 : Nat) (hH : Holds w a l) (hb : Below w.heap.size w w1) (hcur : w1.heap[w.heap.size]? = some (.cells cur.toArray 5 (0, 0))) (hl : cur.length = l.length) :
    ∃ w2, (Builtin.copy_ #[22, 22] 3 #[.slice (some ⟨w.heap.size, 0, none⟩) l.length l.length, .slice a l.length c1]).run Yba.prog w1 = .ok (.int .i64 (l.length : Int)) w2 ∧ w2.heap[w.heap.size]? = some (.cells (bcs l).toArray 5 (0, 0)) ∧ Below w.heap.size w w2 := by
  have e : (bcs l).length = l.length := by simp [bcs]
  by_cases h0 : l = []
  · subst h0
    have hc0 : cur = [] := List.eq_nil_of_length_eq_zero hl
    subst hc0
    exact ⟨w1, run_copy_none (P := Yba.prog) w1 22 22 3 5 _ _ _ _ _ _ Yba.underlying22 sizeByte (by simp), hcur, hb⟩
  · cases ha : a with
    | none => exact absurd (hH.1 ha) h0
    | some ad =>
      have hr := run_copy_row Yba.prog w1 22 22 3 5 w.heap.size 0 l.length l.length ad l.length c1 cur.toArray 5 (bcs l) Yba.underlying22 sizeByte hcur (by rw [e]; simp)
        (fun j v hv => by
          simp only [bcs, List.getElem?_map, Option.map_eq_some_iff] at hv
          obtain ⟨c, hc, rfl⟩ := hv
          obtain ⟨hj, rfl⟩ := List.getElem?_eq_some_iff.1 hc
          exact holds_cell hH hb ha j hj) (by simp [e, hl]) (bcs_one l)
      have e2 : (cur.toArray.toList.take 0 ++ bcs l ++ cur.toArray.toList.drop (0 + (bcs l).length)) = bcs l := by
        simp [e, hl, List.drop_eq_nil_of_le]
      rw [e2, e] at hr
      exact ⟨_, hr, setRow_heap w1 w.heap.size _ _ 5 (0, 0) hcur, below_setRow hb (Nat.le_refl _) _⟩

theorem keep_conv {w : World} {g : Nat} {l : List UInt8} (hk : w.heap[g]? = some (.cells (bcs l).toArray 5 (0, 0))) (c : Nat) : (convert 22 9 (.slice (some ⟨g, 0, none⟩) l.length c)).run Yba.prog w = .ok (.string ⟨l.toArray⟩) w := by
  refine run_convert_bytes_back (P := Yba.prog) w 22 9 5 ⟨g, 0, none⟩ c l Yba.underlying22 Yba.underlying5 Yba.underlying9 (fun j hj => ?_)
  have e : (⟨g, 0, none⟩ : Addr).add j = ⟨g, j, none⟩ := by
    by_cases h0 : j = 0 <;> simp [Addr.add, h0]
  rw [e]
  simp [World.cell?, hk, bcs, hj]

theorem cont_conv {w w1 : World} {a : Option Addr} {l : List UInt8} (hH : Holds w a l) (hb : Below w.heap.size w w1) (c : Nat) : (convert 22 9 (.slice a l.length c)).run Yba.prog w1 = .ok (.string ⟨l.toArray⟩) w1 := by
  cases ha : a with
  | none =>
    have := hH.1 ha
    subst this
    exact run_convert_bytes_nil (P := Yba.prog) w1 22 5 Yba.underlying22 Yba.underlying5 _ _ 9 Yba.underlying9
  | some x => exact run_convert_bytes_back (P := Yba.prog) w1 22 9 5 x c l Yba.underlying22 Yba.underlying5 Yba.underlying9 (fun j hj => holds_cell hH hb ha j hj)

theorem after_item {w w2 w3 : World} {o : Obj} {l : List UInt8} (B2 : Below w.heap.size w w2) (hk2 : w2.heap[w.heap.size]? = some (.cells (bcs l).toArray 5 (0, 0))) (hb3 : Below (w2.alloc o).heap.size (w2.alloc o) w3) :
    Below w.heap.size w w3 ∧ w3.heap[w.heap.size]? = some (.cells (bcs l).toArray 5 (0, 0)) := by
  have hz : w.heap.size < w2.heap.size := (Array.getElem?_eq_some_iff.1 hk2).1
  refine ⟨(B2.alloc B2.size _).trans (hb3.mono (by simp; omega)), ?_⟩
  rw [hb3.block w.heap.size (by simp; omega), Below.heap_alloc w2 o _ hz]
  exact hk2

set_option maxHeartbeats 1000000 in
set_option maxRecDepth 100000 in
theorem law_long (k off coff dep md : Int) (a1 a2 : Option Addr) (l1 c1 l2 c2 : Nat) (h1 : l1 ≤ 140737488351232) (h2 : l2 ≤ 140737488351232) (hg : 1048576 < (l1 : Int) + (l2 : Int)) (w : World) :
    Calls Yba.prog 3 #[.int .i64 k, .slice a1 l1 c1, .slice a2 l2 c2, .int .i64 off, .int .i64 coff, .int .i64 dep, .int .i64 md] w fun e w' => e = .returned (.bool true) ∧ Below w.heap.size w w' := by
  go_enter Yba.func3, Yba.ntmps3
  go_wp2
  go_ret
  exact ⟨rfl, Below.refl _ _⟩

set_option maxHeartbeats 1000000 in
set_option maxRecDepth 100000 in
theorem law_list (k off coff dep md : Int) (a1 a2 : Option Addr) (l : List UInt8) (c1 l2 c2 : Nat) (hk : (k != 0) = true) (hle : ¬ 1048576 < (l.length : Int) + (l2 : Int)) (w : World) (hH : Holds w a1 l) :
    Calls Yba.prog 3 #[.int .i64 k, .slice a1 l.length c1, .slice a2 l2 c2, .int .i64 off, .int .i64 coff, .int .i64 dep, .int .i64 md] w fun e w' => e = .returned (.bool true) ∧ Below w.heap.size w w' := by
  obtain ⟨i0, hi, hz0, hz1, hz2⟩ := info_parts infoByte
  have HH := Lib.hid hH
  have hll : l.length ≤ 1048576 := by omega
  clear hH
  go_enter Yba.func3, Yba.ntmps3
  go_wp2_with (at_make; refine wpList_make_full _ rfl (.tmp 27) (.tmp 27) 22 rfl w.heap.size 5 i0 (.int .u8 0) 1 Yba.underlying22 hi hz0 hz1 .i64 .i64 _ _ l.length rfl rfl rfl rfl (by rw [hz2]; omega) (by unfold maxLen; omega) (Nat.le_refl _) ?_; intro w1 hown1 hgrow1; refine Hid.out ?_)
  refine Lib.hid ?_
  have B1 : Below w.heap.size w w1 := (Below.refl w.heap.size w).grown hgrow1 (Nat.le_refl _) (fun k hk => by cases hk)
  obtain ⟨cur, hcur, hcl⟩ := made_open hown1
  have HC := Lib.hid hcur
  have HL := Lib.hid hcl
  clear hown1 hgrow1 hcur hcl
  have hnil : ∀ w, (binOp .eql 22 (.slice a1 l.length c1) (.slice none 0 0)).run Yba.prog w = .ok (.bool a1.isNone) w := fun w => Lib.run_eql_slice_nil w 22 5 a1 _ _ 0 0 Yba.underlying22
  have hnn : ∀ w, (binOp .eql 22 (.slice none 0 0) (.slice none 0 0)).run Yba.prog w = .ok (.bool true) w := fun w => Lib.run_eql_slice_nil w 22 5 none _ _ 0 0 Yba.underlying22
  obtain ⟨w2, hcopy, hk2, B2⟩ := copy_run c1 HH.out B1 HC.out HL.out
  have K2 := Lib.hid hk2
  have hz : w.heap.size < w2.heap.size := (Array.getElem?_eq_some_iff.1 hk2).1
  clear hk2 HC HL
  go_wp2_with (go_at_call 4; refine (item_list k off coff dep md a1 a2 l.length c1 l2 c2 hk _).mono ?_; rintro e w3 ⟨N, rfl, hN, n0, n1, hb3⟩; refine Hid.out ?_)
  refine Lib.hid ?_
  obtain ⟨B3, hk3⟩ := after_item B2 K2.out hb3
  have E1 := Lib.hid (cont_conv HH.out B3 c1)
  have E2 := Lib.hid (keep_conv hk3 l.length)
  clear hk3 hb3 hcopy B1 B2 K2
  go_wp2_with (first | (go_at_call 5; refine (equal_yes _ _ _ _ E1.out E2.out).mono ?_; rintro e w' ⟨rfl, rfl⟩) | (go_at_call 6; refine (refused_yes N off rWant _ n0 n1).mono ?_; rintro e w' ⟨rfl, rfl⟩))
  go_ret
  exact ⟨rfl, B3⟩
theorem keep_first {w : World} {g : Nat} {l : List UInt8} (hk : w.heap[g]? = some (.cells (bcs l).toArray 5 (0, 0))) (h0 : 0 < l.length) : w.cell? ⟨g, 0, none⟩ = some (.int .u8 ((l[0]'h0).toNat : Int)) := by
  simp [World.cell?, hk, bcs, h0]

set_option maxHeartbeats 1000000 in
set_option maxRecDepth 100000 in
theorem law_zero (k off coff dep md : Int) (b o : Nat) (a2 : Option Addr) (l : List UInt8) (c1 l2 c2 : Nat) (hk : (k != 0) = false) (hp : 0 < l.length) (hx : (l[0]'hp).toNat = 0) (hle : ¬ 1048576 < (l.length : Int) + (l2 : Int)) (w : World) (hH : Holds w (some ⟨b, o, none⟩) l) :
    Calls Yba.prog 3 #[.int .i64 k, .slice (some ⟨b, o, none⟩) l.length c1, .slice a2 l2 c2, .int .i64 off, .int .i64 coff, .int .i64 dep, .int .i64 md] w fun e w' => e = .returned (.bool true) ∧ Below w.heap.size w w' := by
  obtain ⟨i0, hi, hz0, hz1, hz2⟩ := info_parts infoByte
  have HH := Lib.hid hH
  have ip : (0 : Int) < (l.length : Int) := by omega
  have hc0 : w.cell? ⟨b, o, none⟩ = some (.int .u8 0) := by
    have := hH.2 _ rfl 0 hp
    rw [hx] at this
    simpa [Addr.add] using this
  have C0 := Lib.hid hc0
  have HX := Lib.hid hx
  have hbw : b < w.heap.size := World.block_lt_of_cell? w ⟨b, o, none⟩ hc0
  clear hc0 hx
  have hll : l.length ≤ 1048576 := by omega
  clear hH
  go_enter Yba.func3, Yba.ntmps3
  go_wp2_with (at_make; refine wpList_make_full _ rfl (.tmp 27) (.tmp 27) 22 rfl w.heap.size 5 i0 (.int .u8 0) 1 Yba.underlying22 hi hz0 hz1 .i64 .i64 _ _ l.length rfl rfl rfl rfl (by rw [hz2]; omega) (by unfold maxLen; omega) (Nat.le_refl _) ?_; intro w1 hown1 hgrow1; refine Hid.out ?_)
  refine Lib.hid ?_
  have B1 : Below w.heap.size w w1 := (Below.refl w.heap.size w).grown hgrow1 (Nat.le_refl _) (fun k hk => by cases hk)
  obtain ⟨cur, hcur, hcl⟩ := made_open hown1
  have HC := Lib.hid hcur
  have HL := Lib.hid hcl
  clear hown1 hgrow1 hcur hcl
  have hnil : ∀ w, (binOp .eql 22 (.slice (some ⟨b, o, none⟩) l.length c1) (.slice none 0 0)).run Yba.prog w = .ok (.bool false) w := fun w => Lib.run_eql_slice_nil w 22 5 (some ⟨b, o, none⟩) _ _ 0 0 Yba.underlying22
  have hnn : ∀ w, (binOp .eql 22 (.slice none 0 0) (.slice none 0 0)).run Yba.prog w = .ok (.bool true) w := fun w => Lib.run_eql_slice_nil w 22 5 none _ _ 0 0 Yba.underlying22
  obtain ⟨w2, hcopy, hk2, B2⟩ := copy_run c1 HH.out B1 HC.out HL.out
  have K2 := Lib.hid hk2
  have hz : w.heap.size < w2.heap.size := (Array.getElem?_eq_some_iff.1 hk2).1
  clear hk2 HC HL
  have hc2 : w2.cell? ⟨b, o, none⟩ = some (.int .u8 0) := (B2.cell (p := ⟨b, o, none⟩) hbw).trans C0.out
  have C2 := Lib.hid hc2
  have hbw2 : b < w2.heap.size := Nat.lt_of_lt_of_le hbw B2.size
  clear hc2
  go_wp2_with (go_at_call 4; refine (item_zero k off coff dep md b o a2 l.length c1 l2 c2 hk ip _ (by first | exact C2.out | (go_simp; exact C2.out))).mono ?_; rintro e w3 ⟨N, rfl, hN, n0, n1, hb3⟩; refine Hid.out ?_)
  refine Lib.hid ?_
  obtain ⟨B3, hk3⟩ := after_item B2 K2.out hb3
  have E1 := Lib.hid (cont_conv HH.out B3 c1)
  have E2 := Lib.hid (keep_conv hk3 l.length)
  have kf := keep_first hk3 hp
  rw [HX.out] at kf
  clear hk3 hb3 hcopy B1 B2 K2
  go_wp2_with (first | (go_at_call 5; refine (equal_yes _ _ _ _ E1.out E2.out).mono ?_; rintro e w' ⟨rfl, rfl⟩) | (go_at_call 6; refine (refused_yes N off rZeros _ n0 n1).mono ?_; rintro e w' ⟨rfl, rfl⟩))
  go_ret
  exact ⟨rfl, B3⟩

set_option maxHeartbeats 1000000 in
set_option maxRecDepth 100000 in
theorem law_good (k off coff dep md : Int) (b o : Nat) (a2 : Option Addr) (l : List UInt8) (c1 l2 c2 : Nat) (hk : (k != 0) = false) (hp : 0 < l.length) (x : Int) (hx : ((l[0]'hp).toNat : Int) = x) (hx0 : (x == 0) = false) (hle : ¬ 1048576 < (l.length : Int) + (l2 : Int)) (w : World) (hH : Holds w (some ⟨b, o, none⟩) l) :
    Calls Yba.prog 3 #[.int .i64 k, .slice (some ⟨b, o, none⟩) l.length c1, .slice a2 l2 c2, .int .i64 off, .int .i64 coff, .int .i64 dep, .int .i64 md] w fun e w' => e = .returned (.bool true) ∧ Below w.heap.size w w' := by
  obtain ⟨i0, hi, hz0, hz1, hz2⟩ := info_parts infoByte
  have hpp : ∀ (a : Addr) (w : World), (binOp .neq 32 (.pointer (some a)) (.pointer (some a))).run Yba.prog w = .ok (.bool false) w := fun a w => Lib.run_neq_ptr_same (P := Yba.prog) w a Yba.underlying32 hi
  have HH := Lib.hid hH
  have ip : (0 : Int) < (l.length : Int) := by omega
  have hc0 : w.cell? ⟨b, o, none⟩ = some (.int .u8 x) := by
    have := hH.2 _ rfl 0 hp
    rw [hx] at this
    simpa [Addr.add] using this
  have C0 := Lib.hid hc0
  have HX := Lib.hid hx
  have hbw : b < w.heap.size := World.block_lt_of_cell? w ⟨b, o, none⟩ hc0
  clear hc0 hx
  have hll : l.length ≤ 1048576 := by omega
  clear hH
  go_enter Yba.func3, Yba.ntmps3
  go_wp2_with (at_make; refine wpList_make_full _ rfl (.tmp 27) (.tmp 27) 22 rfl w.heap.size 5 i0 (.int .u8 0) 1 Yba.underlying22 hi hz0 hz1 .i64 .i64 _ _ l.length rfl rfl rfl rfl (by rw [hz2]; omega) (by unfold maxLen; omega) (Nat.le_refl _) ?_; intro w1 hown1 hgrow1; refine Hid.out ?_)
  refine Lib.hid ?_
  have B1 : Below w.heap.size w w1 := (Below.refl w.heap.size w).grown hgrow1 (Nat.le_refl _) (fun k hk => by cases hk)
  obtain ⟨cur, hcur, hcl⟩ := made_open hown1
  have HC := Lib.hid hcur
  have HL := Lib.hid hcl
  clear hown1 hgrow1 hcur hcl
  have hnil : ∀ w, (binOp .eql 22 (.slice (some ⟨b, o, none⟩) l.length c1) (.slice none 0 0)).run Yba.prog w = .ok (.bool false) w := fun w => Lib.run_eql_slice_nil w 22 5 (some ⟨b, o, none⟩) _ _ 0 0 Yba.underlying22
  have hnn : ∀ w, (binOp .eql 22 (.slice none 0 0) (.slice none 0 0)).run Yba.prog w = .ok (.bool true) w := fun w => Lib.run_eql_slice_nil w 22 5 none _ _ 0 0 Yba.underlying22
  obtain ⟨w2, hcopy, hk2, B2⟩ := copy_run c1 HH.out B1 HC.out HL.out
  have K2 := Lib.hid hk2
  have hz : w.heap.size < w2.heap.size := (Array.getElem?_eq_some_iff.1 hk2).1
  clear hk2 HC HL
  have hc2 : w2.cell? ⟨b, o, none⟩ = some (.int .u8 x) := (B2.cell (p := ⟨b, o, none⟩) hbw).trans C0.out
  have C2 := Lib.hid hc2
  have hbw2 : b < w2.heap.size := Nat.lt_of_lt_of_le hbw B2.size
  clear hc2
  go_wp2_with (go_at_call 4; refine (item_good k off coff dep md b o a2 l.length c1 l2 c2 hk ip x hx0 _ (by first | exact C2.out | (go_simp; exact C2.out))).mono ?_; rintro e w3 ⟨rfl, hb3⟩; refine Hid.out ?_)
  refine Lib.hid ?_
  obtain ⟨B3, hk3⟩ := after_item B2 K2.out hb3
  have E1 := Lib.hid (cont_conv HH.out B3 c1)
  have E2 := Lib.hid (keep_conv hk3 l.length)
  have kf := keep_first hk3 hp
  rw [HX.out] at kf
  clear hk3 hb3 hcopy B1 B2 K2
  go_wp2_with (first | (go_at_call 5; refine (equal_yes _ _ _ _ E1.out E2.out).mono ?_; rintro e w' ⟨rfl, rfl⟩))
  go_quiet (fail)
  go_wp2
  go_ret
  exact ⟨rfl, ⟨B3.os, B3.tape, B3.output, B3.size, B3.block⟩⟩

set_option maxHeartbeats 1000000 in
set_option maxRecDepth 100000 in
theorem law_empty (k off coff dep md : Int) (a1 a2 : Option Addr) (c1 l2 c2 : Nat) (hk : (k != 0) = false) (hle : ¬ 1048576 < (l2 : Int)) (w : World) (hH : Holds w a1 []) :
    Calls Yba.prog 3 #[.int .i64 k, .slice a1 0 c1, .slice a2 l2 c2, .int .i64 off, .int .i64 coff, .int .i64 dep, .int .i64 md] w fun e w' => e = .returned (.bool true) ∧ Below w.heap.size w w' := by
  obtain ⟨i0, hi, hz0, hz1, hz2⟩ := info_parts infoByte
  have HH := Lib.hid hH
  clear hH
  go_enter Yba.func3, Yba.ntmps3
  go_wp2_with (at_make; refine wpList_make_full _ rfl (.tmp 27) (.tmp 27) 22 rfl w.heap.size 5 i0 (.int .u8 0) 1 Yba.underlying22 hi hz0 hz1 .i64 .i64 _ _ 0 rfl rfl rfl rfl (by rw [hz2]; omega) (by unfold maxLen; omega) (Nat.le_refl _) ?_; intro w1 hown1 hgrow1; refine Hid.out ?_)
  refine Lib.hid ?_
  have B1 : Below w.heap.size w w1 := (Below.refl w.heap.size w).grown hgrow1 (Nat.le_refl _) (fun k hk => by cases hk)
  obtain ⟨cur, hcur, hcl⟩ := made_open hown1
  have HC := Lib.hid hcur
  have HL := Lib.hid hcl
  clear hown1 hgrow1 hcur hcl
  have hnil : ∀ w, (binOp .eql 22 (.slice a1 0 c1) (.slice none 0 0)).run Yba.prog w = .ok (.bool a1.isNone) w := fun w => Lib.run_eql_slice_nil w 22 5 a1 _ _ 0 0 Yba.underlying22
  have hnn : ∀ w, (binOp .eql 22 (.slice none 0 0) (.slice none 0 0)).run Yba.prog w = .ok (.bool true) w := fun w => Lib.run_eql_slice_nil w 22 5 none _ _ 0 0 Yba.underlying22
  obtain ⟨w2, hcopy0, hk2, B2⟩ := copy_run (l := []) c1 HH.out B1 HC.out HL.out
  have hcopy : (Builtin.copy_ #[22, 22] 3 #[.slice (some ⟨w.heap.size, 0, none⟩) 0 0, .slice a1 0 c1]).run Yba.prog w1 = .ok (.int .i64 0) w2 := hcopy0
  clear hcopy0
  have K2 := Lib.hid hk2
  have hz : w.heap.size < w2.heap.size := (Array.getElem?_eq_some_iff.1 hk2).1
  clear hk2 HC HL
  go_wp2_with (go_at_call 4; refine (item_empty k off coff dep md a1 a2 c1 l2 c2 hk _).mono ?_; rintro e w3 ⟨rfl, hb3⟩; refine Hid.out ?_)
  refine Lib.hid ?_
  obtain ⟨B3, hk3⟩ := after_item B2 K2.out hb3
  have E1 : Hid ((convert 22 9 (.slice a1 0 c1)).run Yba.prog w3 = .ok (.string ⟨#[]⟩) w3) := Lib.hid (cont_conv HH.out B3 c1)
  have E2 : Hid ((convert 22 9 (.slice (some ⟨w.heap.size, 0, none⟩) 0 0)).run Yba.prog w3 = .ok (.string ⟨#[]⟩) w3) := Lib.hid (keep_conv (l := []) hk3 0)
  clear hk3 hb3 hcopy B1 B2 K2
  go_wp2_with (first | (go_at_call 5; refine (equal_yes _ _ _ _ E1.out E2.out).mono ?_; rintro e w' ⟨rfl, rfl⟩))
  go_quiet (fail)
  go_wp2
  go_ret
  exact ⟨rfl, ⟨B3.os, B3.tape, B3.output, B3.size, B3.block⟩⟩

end Go.Proofs.Ybulkdolk
