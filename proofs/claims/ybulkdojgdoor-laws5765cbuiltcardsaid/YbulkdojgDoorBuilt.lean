/-
  Seat b5765aD: the walk of 'LawS5765CBuilt' (function 4).
-/
import Derived.Test.YbulkdojgDoorParse
import Derived.Test.YbulkdojgDoorDigits
import Derived.Test.YbulkdojgDoorLaid
import Derived.OwnWalk
import Derived.Laws.IdiomStrings
import Derived.WalkSmall
namespace Go.Proofs.YbulkdojgDoor
open Go.RowKit
set_option linter.unusedVariables false

/-- The cells of a row of bytes. -/
def bcs (l : List UInt8) : List Value := l.map fun b => Value.int .u8 b.toNat

theorem infoByte : (Ybad.prog.info? 5).map (fun i => (i.zero, i.size, i.bytes)) = some (some (.int .u8 0), 1, 1) := by kernel_rfl

theorem own_snoc {w : World} {B : Nat} {v : Value} {ds : List UInt8} {c : UInt8} {x : Int} (h : w.ownsRow B 5 1 v (ds.length + 1) (bcs ds ++ [.int .u8 x])) (hx : x = (c.toNat : Int)) :
    w.ownsRow B 5 1 v (ds ++ [c]).length (bcs (ds ++ [c])) := by
  subst hx
  have e1 : bcs (ds ++ [c]) = bcs ds ++ [.int .u8 c.toNat] := by simp [bcs]
  have e2 : (ds ++ [c]).length = ds.length + 1 := by simp
  rw [e1, e2]
  exact h

theorem below_append {B : Nat} {a w w1 : World} {v : Value} {n : Nat} {xs : List Value} {o : Obj} (hb : Below B a w) (hB : B ≤ w.heap.size) (hown : w.ownsRow B 5 1 v n xs) (hg : (w.alloc o).grownBy w1 v.ownBlock) : Below B a w1 :=
  (hb.alloc hB _).grown hg (by simp; omega) (fun k hk => (hown.lt k hk).1)

/-- The first loop's tie to the plain digits. -/
def Tie1 (u : Int) (f : Nat) (y : Int) (ds : List UInt8) : Prop := ds.length + (f + 1) = 20 ∧ y.toNat < 10 ^ (f + 1) ∧ revF 20 u.toNat = ds ++ revF (f + 1) y.toNat

theorem tie1_start (u : Int) (h0 : 0 ≤ u) (h1 : u ≤ 18446744073709551615) : Tie1 u 19 u [] := ⟨rfl, by omega, rfl⟩

theorem byte_of (y : Int) (h0 : 0 ≤ y) : 48 + y % 10 = ((UInt8.ofNat (48 + y.toNat % 10)).toNat : Int) := by
  rw [digit_toNat]
  omega

theorem tie1_stop {u : Int} {f : Nat} {y : Int} {ds : List UInt8} (h : Tie1 u f y ds) (h0 : 0 ≤ y) (hq : y / 10 = 0) : revF 20 u.toNat = ds ++ [UInt8.ofNat (48 + y.toNat % 10)] := by
  obtain ⟨_, _, h3⟩ := h
  have e : y.toNat / 10 = 0 := by omega
  rw [h3, revF, if_pos e]

theorem tie1_on {u : Int} {f : Nat} {y : Int} {ds : List UInt8} (h : Tie1 u f y ds) (h0 : 0 ≤ y) (hq : ¬ y / 10 = 0) : Tie1 u (f - 1) (y / 10) (ds ++ [UInt8.ofNat (48 + y.toNat % 10)]) := by
  obtain ⟨h1, h2, h3⟩ := h
  have e : ¬ y.toNat / 10 = 0 := by omega
  have e2 : (y / 10).toNat = y.toNat / 10 := by omega
  cases f with
  | zero => simp at h2; omega
  | succ f =>
    refine ⟨?_, ?_, ?_⟩
    · simp
      omega
    · rw [e2]
      rw [Nat.pow_succ] at h2
      simp
      omega
    · rw [h3, revF, if_neg e, e2]
      simp

theorem own_open {w : World} {B : Nat} {v : Value} {D : List UInt8} (h : w.ownsRow B 5 1 v D.length (bcs D)) (hne : 0 < D.length) :
    ∃ g cap, v = .slice (some ⟨g, 0, none⟩) D.length cap ∧ g < w.heap.size ∧ ∀ (j : Nat) (hj : j < D.length), w.cell? ⟨g, j, none⟩ = some (.int .u8 ((D[j]'hj).toNat : Int)) := by
  rcases h.2 with ⟨_, h0⟩ | ⟨g, cap, cur, rfl, _, _, _, _, _, _⟩
  · omega
  · refine ⟨g, cap, rfl, (h.lt g rfl).2, fun j hj => ?_⟩
    have := h.cells (g := g) rfl j (.int .u8 ((D[j]'hj).toNat : Int)) (by simp [bcs, hj])
    by_cases h0 : j = 0
    · subst h0
      simpa [Addr.add] using this
    · simpa [Addr.add, h0] using this

theorem cells_add {w : World} {g : Nat} {m : List UInt8} (h : ∀ (j : Nat) (hj : j < m.length), w.cell? ⟨g, j, none⟩ = some (.int .u8 ((m[j]'hj).toNat : Int))) :
    ∀ (j : Nat) (hj : j < m.length), w.cell? ((⟨g, 0, none⟩ : Addr).add j) = some (.int .u8 ((m[j]'hj).toNat : Int)) := by
  intro j hj
  have := h j hj
  by_cases h0 : j = 0
  · subst h0
    simpa [Addr.add] using this
  · simpa [Addr.add, h0] using this

theorem rev_step (D : List UInt8) (i : Nat) (h : i < D.length) : (D.drop i).reverse = (D.drop (i + 1)).reverse ++ [D[i]] := by
  rw [List.drop_eq_getElem_cons h, List.reverse_cons]

theorem parse_yes_l (m : List UInt8) (mx v : Int) (hm : m.length ≤ 1000) (h : period m mx = some v) (w : World) :
    Calls Ybad.prog 5 #[.string ⟨m.toArray⟩, .int .i64 mx] w fun e w' => e = .returned (.tuple #[.int .i64 v, .nilIface]) ∧ Below w.heap.size w w' :=
  parse_yes ⟨m.toArray⟩ mx v (by show m.toArray.size ≤ _; simp; omega) h w

theorem parse_no_l (m : List UInt8) (mx : Int) (hm : m.length ≤ 1000) (h : period m mx = none) (tp tq : TypeId) (p q : Value) (w : World)
    (hv0 : w.var? Ybad.prog "strconv.ErrSyntax" = some #[.iface tp p]) (hv1 : w.var? Ybad.prog "strconv.ErrRange" = some #[.iface tq q]) :
    Calls Ybad.prog 5 #[.string ⟨m.toArray⟩, .int .i64 mx] w fun e w' => e = .returned (.tuple #[.int .i64 0, .iface 28 (.int .i64 37)]) ∧ Below w.heap.size w w' :=
  parse_no ⟨m.toArray⟩ mx (by show m.toArray.size ≤ _; simp; omega) h tp tq p q w hv0 hv1

theorem loop3_on (l D m : List UInt8) (i : Nat) (h : i < D.length) (hm : m = l ++ (D.drop ((i : Int) + 1).toNat).reverse) : m ++ [D[i]] = l ++ (D.drop ((i : Int) - 1 + 1).toNat).reverse := by
  have e1 : ((i : Int) + 1).toNat = i + 1 := by omega
  have e2 : ((i : Int) - 1 + 1).toNat = i := by omega
  rw [hm, e1, e2, rev_step D i h, List.append_assoc]

theorem loop3_start (l D : List UInt8) : l = l ++ (D.drop ((D.length : Int) - 1 + 1).toNat).reverse := by
  have e : ((D.length : Int) - 1 + 1).toNat = D.length := by omega
  rw [e]
  simp

theorem loop3_end {l D m : List UInt8} {k z u : Nat} (hm : m = l ++ (D.drop ((-1 : Int) + 1).toNat).reverse) (hl : l = sgn k ++ List.replicate z 48) (hD : D = revF 20 u) : m = sgn k ++ mag z u := by
  rw [hm, hl, hD, mag, List.append_assoc]
  rfl

set_option maxHeartbeats 4000000 in
set_option maxRecDepth 100000 in
theorem built_0 (u sg zs mx : Int) (u0 : 0 ≤ u) (u1 : u ≤ 18446744073709551615) (s0 : 0 ≤ sg) (s1 : sg ≤ 255) (z0 : 0 ≤ zs) (z1 : zs ≤ 255) (k1 : (sg % 3 == 1) = false) (k2 : (sg % 3 == 2) = false) (k3 : (sg % 3 != 2) = true) (tp tq : TypeId) (p q : Value) (w : World)
    (V0 : Hid (w.var? Ybad.prog "strconv.ErrSyntax" = some #[.iface tp p])) (V1 : Hid (w.var? Ybad.prog "strconv.ErrRange" = some #[.iface tq q])) (hw0 : 0 < w.heap.size) (hw1 : 1 < w.heap.size) :
    Calls Ybad.prog 4 #[.int .u64 u, .int .u8 sg, .int .u8 zs, .int .i64 mx] w fun e w' => e = .returned (.bool true) ∧ Below w.heap.size w w' := by
  obtain ⟨i0, hi, hz0, hz1, hz2⟩ := info_parts infoByte
  have HT := Lib.hid (tie1_start u u0 u1)
  obtain ⟨z, hz⟩ : ∃ z : Nat, zs % 4 = (z : Int) := ⟨(zs % 4).toNat, by omega⟩
  have hz3 : z ≤ 3 := by omega
  have h37 : ∀ w, (binOp .eql 23 (.iface 28 (.int .i64 37)) (.iface 28 (.int .i64 37))).run Ybad.prog w = .ok (.bool true) w := fun _ => by kernel_rfl
  go_enter Ybad.func4, Ybad.ntmps4
  go_wp2
  go_loopw [9, 10] (fun v x wr => ∃ (f : Nat) (y : Int) (ds : List UInt8), x = .int .u64 y ∧ 0 ≤ y ∧ y ≤ 18446744073709551615 ∧ ds.length ≤ 19 ∧ wr.ownsRow w.heap.size 5 1 v ds.length (bcs ds) ∧ Below w.heap.size w wr ∧ Hid (Tie1 u f y ds)) (fun _ x _ => (intOf x).toNat)
  case atStart => exact ⟨19, u, [], rfl, u0, u1, by simp, World.ownsRow_nil _ _ _ _, Below.refl _ _, HT⟩
  case round =>
    obtain ⟨f, y, ds, rfl, y0, y1, hl, hown, hnx, ht⟩ := hrel
    have hsz := hnx.size
    by_cases hq : y / 10 = 0
    · have hq' : (y / 10 == 0) = true := beq_iff_eq.2 hq
      have HS := Lib.hid (tie1_stop ht.out y0 hq)
      clear hq ht HT
      go_wp2_with (at_builtin; refine wpList_append_own _ rfl (.tmp 19) (.tmp 24) 31 rfl w.heap.size 5 i0 (.int .u8 0) 1 1 Ybad.underlying31 hi hz0 hz1 hz2 rfl (by decide) _ _ _ rfl (hown.alloc _) ⟨wr.heap.size, 0, none⟩ 1 1 [Value.int .u8 (48 + y % 10)] rfl rfl (by intro j u' hj; match j, hj with | 0, hj => simp at hj; subst hj; simp [Addr.add]) (by intro u' hu'; simp at hu'; subst hu'; rfl) (by unfold maxLen; omega) (by omega) (by simp; omega) ?_; intro v1 w1 hown1 hgrow _; refine Hid.out ?_)
      refine Lib.hid ?_
      have R1 := own_snoc hown1 (byte_of y y0)
      have R2 := below_append hnx (by omega) hown hgrow
      rw [← HS.out] at R1
      obtain ⟨D, hD⟩ : ∃ D, D = revF 20 u.toNat := ⟨_, rfl⟩
      rw [← hD] at R1
      have hD1 : 0 < D.length := by rw [hD, HS.out]; simp
      have hD2 : D.length ≤ 20 := by rw [hD]; exact revF_len 20 _
      have HD := Lib.hid hD
      obtain ⟨g, cap, hv, hg, hcell⟩ := own_open R1 hD1
      rw [hv]
      clear hown1 hgrow hown hnx hsz HS hD R1 hv hl
      go_wp2
      go_loopw [11, 13] (fun v i wr2 => ∃ (j : Nat) (l : List UInt8), i = .int .i64 j ∧ j ≤ z ∧ l.length ≤ 1 + j ∧ wr2.ownsRow w1.heap.size 5 1 v l.length (bcs l) ∧ Below w1.heap.size w1 wr2 ∧ Hid (l = sgn 0 ++ List.replicate j 48)) (fun _ i _ => z - (intOf i).toNat)
      case atStart => exact ⟨0, [], rfl, by omega, by simp, World.ownsRow_nil _ _ _ _, Below.refl _ _, Lib.hid rfl⟩
      case round =>
        obtain ⟨j, l, rfl, hj, hl1, hown2, hnx2, HL⟩ := hrel
        have hsz2 := hnx2.size
        by_cases hjz : j < z
        · go_wp2_with (at_builtin; refine wpList_append_own _ rfl (.tmp 50) (.tmp 51) 31 rfl w1.heap.size 5 i0 (.int .u8 0) 1 1 Ybad.underlying31 hi hz0 hz1 hz2 rfl (by decide) _ _ _ rfl (hown2.alloc _) ⟨wr.heap.size, 0, none⟩ 1 1 [Value.int .u8 48] rfl rfl (by intro j u' hj; match j, hj with | 0, hj => simp at hj; subst hj; simp [Addr.add]) (by intro u' hu'; simp at hu'; subst hu'; rfl) (by unfold maxLen; omega) (by omega) (by simp; omega) ?_; intro v3 w3 hown3 hgrow3 _; refine Hid.out ?_)
          refine Lib.hid ?_
          have R3 := own_snoc (c := 48) hown3 rfl
          have R4 := below_append hnx2 (by omega) hown2 hgrow3
          have HL' : Hid (l ++ [48] = sgn 0 ++ List.replicate (j + 1) 48) := Lib.hid (by rw [HL.out, List.append_assoc]; congr 1; exact List.replicate_succ'.symm)
          clear hown2 hown3 hgrow3 hnx2 hsz2 HL
          go_wp2
          go_roundw
          case rel => exact ⟨j + 1, _, by go_num, by omega, by simp; omega, R3, R4, HL'⟩
          case measure => simp [intOf]; omega
        · have hjj : j = z := by omega
          subst hjj
          clear hjz
          go_wp2
          go_loopw [11, 14] (fun v i wr3 => ∃ (a : Int) (m : List UInt8), i = .int .i64 a ∧ -1 ≤ a ∧ a < (D.length : Int) ∧ (m.length : Int) + a + 1 ≤ (l.length : Int) + (D.length : Int) ∧ 0 < (m.length : Int) + a + 1 ∧ wr3.ownsRow w1.heap.size 5 1 v m.length (bcs m) ∧ Below w1.heap.size w1 wr3 ∧ Hid (m = l ++ (D.drop (a + 1).toNat).reverse)) (fun _ i _ => (intOf i + 1).toNat)
          case atStart => exact ⟨_, l, rfl, by omega, by omega, by omega, by omega, hown2, hnx2, Lib.hid (loop3_start l D)⟩
          case round =>
            clear hown2 hnx2 hsz2 hz
            obtain ⟨a, m, rfl, ha0, ha1, hml, hmp, hown4, hnx4, HM⟩ := hrel
            have hsz4 := hnx4.size
            by_cases ha : 0 ≤ a
            · obtain ⟨i, rfl⟩ : ∃ i : Nat, a = i := ⟨a.toNat, by omega⟩
              have hiD : i < D.length := by omega
              have hc4 := (hnx4.cell (p := ⟨g, i, none⟩) hg).trans (hcell i hiD)
              go_wp2_with (at_builtin; refine wpList_append_own _ rfl (.tmp 60) (.tmp 65) 31 rfl w1.heap.size 5 i0 (.int .u8 0) 1 1 Ybad.underlying31 hi hz0 hz1 hz2 rfl (by decide) _ _ _ rfl (hown4.alloc _) ⟨wr.heap.size, 0, none⟩ 1 1 [Value.int .u8 ((D[i]'hiD).toNat : Int)] rfl rfl (by intro j u' hj; match j, hj with | 0, hj => simp at hj; subst hj; simp [Addr.add]) (by intro u' hu'; simp at hu'; subst hu'; rfl) (by unfold maxLen; omega) (by omega) (by simp; omega) ?_; intro v5 w5 hown5 hgrow5 _; refine Hid.out ?_)
              refine Lib.hid ?_
              have R5 := own_snoc (c := D[i]) hown5 rfl
              have R6 := below_append hnx4 (by omega) hown4 hgrow5
              have HM' := Lib.hid (loop3_on l D m i hiD HM.out)
              clear hown4 hown5 hgrow5 hnx4 hsz4 HM hc4
              go_wp2
              go_roundw
              case rel => exact ⟨(i : Int) - 1, _, rfl, by omega, by omega, by simp; omega, by simp; omega, R5, R6, HM'⟩
              case measure => simp [intOf] <;> omega
            · have ha' : a = -1 := by omega
              subst ha'
              have hmm := loop3_end (k := 0) HM.out HL.out HD.out
              have hper := built_period 0 j u.toNat mx (by omega) (by omega)
              have hun : ((u.toNat : Nat) : Int) = u := by omega
              rw [← hmm, hun] at hper
              clear hun
              have hm1 : 0 < m.length := by omega
              obtain ⟨g6, cap6, hv6, hg6, hcell6⟩ := own_open hown4 hm1
              have hcv := run_convert_bytes_back (P := Ybad.prog) wr 31 9 5 ⟨g6, 0, none⟩ cap6 m Ybad.underlying31 Ybad.underlying5 Ybad.underlying9 (cells_add hcell6)
              rw [hv6]
              have hnx6 : Below w.heap.size w wr := R2.trans (hnx4.mono R2.size)
              have hm2 : m.length ≤ 1000 := by omega
              clear hown4 hcell6 hcell HM HL HD hv6 hmm
              have H0 := Lib.hid (var?_below hnx6 gES hw0 V0.out)
              have H1 := Lib.hid (var?_below hnx6 gER hw1 V1.out)
              by_cases g1 : u ≤ 9223372036854775807
              · by_cases g2 : 1 ≤ u
                · by_cases g3 : u ≤ mx
                  · rw [if_pos (by omega)] at hper
                    have HP := Lib.hid hper
                    clear hper
                    go_wp2_with (go_at_call 5; refine (parse_yes_l m mx _ hm2 HP.out _).mono ?_; rintro e w7 ⟨rfl, hb7⟩)
                    go_ret
                    exact ⟨rfl, hnx6.trans (hb7.mono hnx6.size)⟩
                  · have g3' : decide (u ≤ mx) = false := decide_eq_false g3
                    rw [if_neg (by omega)] at hper
                    have HP := Lib.hid hper
                    clear hper
                    go_wp2_with (go_at_call 5; refine (parse_no_l m mx hm2 HP.out tp tq p q _ H0.out H1.out).mono ?_; rintro e w7 ⟨rfl, hb7⟩)
                    go_ret
                    exact ⟨rfl, hnx6.trans (hb7.mono hnx6.size)⟩
                · rw [if_neg (by omega)] at hper
                  have HP := Lib.hid hper
                  clear hper
                  go_wp2_with (go_at_call 5; refine (parse_no_l m mx hm2 HP.out tp tq p q _ H0.out H1.out).mono ?_; rintro e w7 ⟨rfl, hb7⟩)
                  go_ret
                  exact ⟨rfl, hnx6.trans (hb7.mono hnx6.size)⟩
              · rw [if_neg (by omega)] at hper
                have HP := Lib.hid hper
                clear hper
                go_wp2_with (go_at_call 5; refine (parse_no_l m mx hm2 HP.out tp tq p q _ H0.out H1.out).mono ?_; rintro e w7 ⟨rfl, hb7⟩)
                go_ret
                exact ⟨rfl, hnx6.trans (hb7.mono hnx6.size)⟩
    · have hq' : (y / 10 == 0) = false := beq_eq_false_iff_ne.2 hq
      have HS := Lib.hid (tie1_on ht.out y0 hq)
      clear ht HT
      go_wp2_with (at_builtin; refine wpList_append_own _ rfl (.tmp 19) (.tmp 24) 31 rfl w.heap.size 5 i0 (.int .u8 0) 1 1 Ybad.underlying31 hi hz0 hz1 hz2 rfl (by decide) _ _ _ rfl (hown.alloc _) ⟨wr.heap.size, 0, none⟩ 1 1 [Value.int .u8 (48 + y % 10)] rfl rfl (by intro j u' hj; match j, hj with | 0, hj => simp at hj; subst hj; simp [Addr.add]) (by intro u' hu'; simp at hu'; subst hu'; rfl) (by unfold maxLen; omega) (by omega) (by simp; omega) ?_; intro v1 w1 hown1 hgrow _; refine Hid.out ?_)
      refine Lib.hid ?_
      have R1 := own_snoc hown1 (byte_of y y0)
      have R2 := below_append hnx (by omega) hown hgrow
      have hl' := HS.out.1
      clear hown hown1 hgrow hnx hsz
      go_wp2
      go_roundw
      case rel => exact ⟨f - 1, y / 10, _, rfl, by omega, by omega, by omega, R1, R2, HS⟩
      case measure => simp [intOf]; omega
set_option maxHeartbeats 4000000 in
set_option maxRecDepth 100000 in
theorem built_1 (u sg zs mx : Int) (u0 : 0 ≤ u) (u1 : u ≤ 18446744073709551615) (s0 : 0 ≤ sg) (s1 : sg ≤ 255) (z0 : 0 ≤ zs) (z1 : zs ≤ 255) (k1 : (sg % 3 == 1) = true) (k3 : (sg % 3 != 2) = true) (tp tq : TypeId) (p q : Value) (w : World)
    (V0 : Hid (w.var? Ybad.prog "strconv.ErrSyntax" = some #[.iface tp p])) (V1 : Hid (w.var? Ybad.prog "strconv.ErrRange" = some #[.iface tq q])) (hw0 : 0 < w.heap.size) (hw1 : 1 < w.heap.size) :
    Calls Ybad.prog 4 #[.int .u64 u, .int .u8 sg, .int .u8 zs, .int .i64 mx] w fun e w' => e = .returned (.bool true) ∧ Below w.heap.size w w' := by
  obtain ⟨i0, hi, hz0, hz1, hz2⟩ := info_parts infoByte
  have HT := Lib.hid (tie1_start u u0 u1)
  obtain ⟨z, hz⟩ : ∃ z : Nat, zs % 4 = (z : Int) := ⟨(zs % 4).toNat, by omega⟩
  have hz3 : z ≤ 3 := by omega
  have h37 : ∀ w, (binOp .eql 23 (.iface 28 (.int .i64 37)) (.iface 28 (.int .i64 37))).run Ybad.prog w = .ok (.bool true) w := fun _ => by kernel_rfl
  go_enter Ybad.func4, Ybad.ntmps4
  go_wp2
  go_loopw [9, 10] (fun v x wr => ∃ (f : Nat) (y : Int) (ds : List UInt8), x = .int .u64 y ∧ 0 ≤ y ∧ y ≤ 18446744073709551615 ∧ ds.length ≤ 19 ∧ wr.ownsRow w.heap.size 5 1 v ds.length (bcs ds) ∧ Below w.heap.size w wr ∧ Hid (Tie1 u f y ds)) (fun _ x _ => (intOf x).toNat)
  case atStart => exact ⟨19, u, [], rfl, u0, u1, by simp, World.ownsRow_nil _ _ _ _, Below.refl _ _, HT⟩
  case round =>
    obtain ⟨f, y, ds, rfl, y0, y1, hl, hown, hnx, ht⟩ := hrel
    have hsz := hnx.size
    by_cases hq : y / 10 = 0
    · have hq' : (y / 10 == 0) = true := beq_iff_eq.2 hq
      have HS := Lib.hid (tie1_stop ht.out y0 hq)
      clear hq ht HT
      go_wp2_with (at_builtin; refine wpList_append_own _ rfl (.tmp 19) (.tmp 24) 31 rfl w.heap.size 5 i0 (.int .u8 0) 1 1 Ybad.underlying31 hi hz0 hz1 hz2 rfl (by decide) _ _ _ rfl (hown.alloc _) ⟨wr.heap.size, 0, none⟩ 1 1 [Value.int .u8 (48 + y % 10)] rfl rfl (by intro j u' hj; match j, hj with | 0, hj => simp at hj; subst hj; simp [Addr.add]) (by intro u' hu'; simp at hu'; subst hu'; rfl) (by unfold maxLen; omega) (by omega) (by simp; omega) ?_; intro v1 w1 hown1 hgrow _; refine Hid.out ?_)
      refine Lib.hid ?_
      have R1 := own_snoc hown1 (byte_of y y0)
      have R2 := below_append hnx (by omega) hown hgrow
      rw [← HS.out] at R1
      obtain ⟨D, hD⟩ : ∃ D, D = revF 20 u.toNat := ⟨_, rfl⟩
      rw [← hD] at R1
      have hD1 : 0 < D.length := by rw [hD, HS.out]; simp
      have hD2 : D.length ≤ 20 := by rw [hD]; exact revF_len 20 _
      have HD := Lib.hid hD
      obtain ⟨g, cap, hv, hg, hcell⟩ := own_open R1 hD1
      rw [hv]
      clear hown1 hgrow hown hnx hsz HS hD R1 hv hl
      go_wp2_with (at_builtin; refine wpList_append_own _ rfl (.tmp 35) (.tmp 36) 31 rfl w1.heap.size 5 i0 (.int .u8 0) 1 1 Ybad.underlying31 hi hz0 hz1 hz2 rfl (by decide) _ _ _ rfl ((World.ownsRow_nil w1 w1.heap.size 5 1).alloc _) ⟨w1.heap.size, 0, none⟩ 1 1 [Value.int .u8 43] rfl rfl (by intro j u' hj; match j, hj with | 0, hj => simp at hj; subst hj; simp [Addr.add]) (by intro u' hu'; simp at hu'; subst hu'; rfl) (by unfold maxLen; omega) (by omega) (by simp) ?_; intro v2 w2 hown2a hgrow2a _; refine Hid.out ?_)
      refine Lib.hid ?_
      have S1 := own_snoc (ds := []) (c := 43) hown2a rfl
      have S2 := below_append (Below.refl w1.heap.size w1) (Nat.le_refl _) (World.ownsRow_nil w1 w1.heap.size 5 1) hgrow2a
      clear hown2a hgrow2a
      go_wp2
      go_loopw [11, 13] (fun v i wr2 => ∃ (j : Nat) (l : List UInt8), i = .int .i64 j ∧ j ≤ z ∧ l.length ≤ 1 + j ∧ wr2.ownsRow w1.heap.size 5 1 v l.length (bcs l) ∧ Below w1.heap.size w1 wr2 ∧ Hid (l = sgn 1 ++ List.replicate j 48)) (fun _ i _ => z - (intOf i).toNat)
      case atStart => exact ⟨0, _, rfl, by omega, by simp, S1, S2, Lib.hid rfl⟩
      case round =>
        obtain ⟨j, l, rfl, hj, hl1, hown2, hnx2, HL⟩ := hrel
        have hsz2 := hnx2.size
        by_cases hjz : j < z
        · go_wp2_with (at_builtin; refine wpList_append_own _ rfl (.tmp 50) (.tmp 51) 31 rfl w1.heap.size 5 i0 (.int .u8 0) 1 1 Ybad.underlying31 hi hz0 hz1 hz2 rfl (by decide) _ _ _ rfl (hown2.alloc _) ⟨wr.heap.size, 0, none⟩ 1 1 [Value.int .u8 48] rfl rfl (by intro j u' hj; match j, hj with | 0, hj => simp at hj; subst hj; simp [Addr.add]) (by intro u' hu'; simp at hu'; subst hu'; rfl) (by unfold maxLen; omega) (by omega) (by simp; omega) ?_; intro v3 w3 hown3 hgrow3 _; refine Hid.out ?_)
          refine Lib.hid ?_
          have R3 := own_snoc (c := 48) hown3 rfl
          have R4 := below_append hnx2 (by omega) hown2 hgrow3
          have HL' : Hid (l ++ [48] = sgn 1 ++ List.replicate (j + 1) 48) := Lib.hid (by rw [HL.out, List.append_assoc]; congr 1; exact List.replicate_succ'.symm)
          clear hown2 hown3 hgrow3 hnx2 hsz2 HL
          go_wp2
          go_roundw
          case rel => exact ⟨j + 1, _, by go_num, by omega, by simp; omega, R3, R4, HL'⟩
          case measure => simp [intOf]; omega
        · have hjj : j = z := by omega
          subst hjj
          clear hjz
          go_wp2
          go_loopw [11, 14] (fun v i wr3 => ∃ (a : Int) (m : List UInt8), i = .int .i64 a ∧ -1 ≤ a ∧ a < (D.length : Int) ∧ (m.length : Int) + a + 1 ≤ (l.length : Int) + (D.length : Int) ∧ 0 < (m.length : Int) + a + 1 ∧ wr3.ownsRow w1.heap.size 5 1 v m.length (bcs m) ∧ Below w1.heap.size w1 wr3 ∧ Hid (m = l ++ (D.drop (a + 1).toNat).reverse)) (fun _ i _ => (intOf i + 1).toNat)
          case atStart => exact ⟨_, l, rfl, by omega, by omega, by omega, by omega, hown2, hnx2, Lib.hid (loop3_start l D)⟩
          case round =>
            clear hown2 hnx2 hsz2 hz
            obtain ⟨a, m, rfl, ha0, ha1, hml, hmp, hown4, hnx4, HM⟩ := hrel
            have hsz4 := hnx4.size
            by_cases ha : 0 ≤ a
            · obtain ⟨i, rfl⟩ : ∃ i : Nat, a = i := ⟨a.toNat, by omega⟩
              have hiD : i < D.length := by omega
              have hc4 := (hnx4.cell (p := ⟨g, i, none⟩) hg).trans (hcell i hiD)
              go_wp2_with (at_builtin; refine wpList_append_own _ rfl (.tmp 60) (.tmp 65) 31 rfl w1.heap.size 5 i0 (.int .u8 0) 1 1 Ybad.underlying31 hi hz0 hz1 hz2 rfl (by decide) _ _ _ rfl (hown4.alloc _) ⟨wr.heap.size, 0, none⟩ 1 1 [Value.int .u8 ((D[i]'hiD).toNat : Int)] rfl rfl (by intro j u' hj; match j, hj with | 0, hj => simp at hj; subst hj; simp [Addr.add]) (by intro u' hu'; simp at hu'; subst hu'; rfl) (by unfold maxLen; omega) (by omega) (by simp; omega) ?_; intro v5 w5 hown5 hgrow5 _; refine Hid.out ?_)
              refine Lib.hid ?_
              have R5 := own_snoc (c := D[i]) hown5 rfl
              have R6 := below_append hnx4 (by omega) hown4 hgrow5
              have HM' := Lib.hid (loop3_on l D m i hiD HM.out)
              clear hown4 hown5 hgrow5 hnx4 hsz4 HM hc4
              go_wp2
              go_roundw
              case rel => exact ⟨(i : Int) - 1, _, rfl, by omega, by omega, by simp; omega, by simp; omega, R5, R6, HM'⟩
              case measure => simp [intOf] <;> omega
            · have ha' : a = -1 := by omega
              subst ha'
              have hmm := loop3_end (k := 1) HM.out HL.out HD.out
              have hper := built_period 1 j u.toNat mx (by omega) (by omega)
              have hun : ((u.toNat : Nat) : Int) = u := by omega
              rw [← hmm, hun] at hper
              clear hun
              have hm1 : 0 < m.length := by omega
              obtain ⟨g6, cap6, hv6, hg6, hcell6⟩ := own_open hown4 hm1
              have hcv := run_convert_bytes_back (P := Ybad.prog) wr 31 9 5 ⟨g6, 0, none⟩ cap6 m Ybad.underlying31 Ybad.underlying5 Ybad.underlying9 (cells_add hcell6)
              rw [hv6]
              have hnx6 : Below w.heap.size w wr := R2.trans (hnx4.mono R2.size)
              have hm2 : m.length ≤ 1000 := by omega
              clear hown4 hcell6 hcell HM HL HD hv6 hmm
              have H0 := Lib.hid (var?_below hnx6 gES hw0 V0.out)
              have H1 := Lib.hid (var?_below hnx6 gER hw1 V1.out)
              by_cases g1 : u ≤ 9223372036854775807
              · by_cases g2 : 1 ≤ u
                · by_cases g3 : u ≤ mx
                  · rw [if_pos (by omega)] at hper
                    have HP := Lib.hid hper
                    clear hper
                    go_wp2_with (go_at_call 5; refine (parse_yes_l m mx _ hm2 HP.out _).mono ?_; rintro e w7 ⟨rfl, hb7⟩)
                    go_ret
                    exact ⟨rfl, hnx6.trans (hb7.mono hnx6.size)⟩
                  · have g3' : decide (u ≤ mx) = false := decide_eq_false g3
                    rw [if_neg (by omega)] at hper
                    have HP := Lib.hid hper
                    clear hper
                    go_wp2_with (go_at_call 5; refine (parse_no_l m mx hm2 HP.out tp tq p q _ H0.out H1.out).mono ?_; rintro e w7 ⟨rfl, hb7⟩)
                    go_ret
                    exact ⟨rfl, hnx6.trans (hb7.mono hnx6.size)⟩
                · rw [if_neg (by omega)] at hper
                  have HP := Lib.hid hper
                  clear hper
                  go_wp2_with (go_at_call 5; refine (parse_no_l m mx hm2 HP.out tp tq p q _ H0.out H1.out).mono ?_; rintro e w7 ⟨rfl, hb7⟩)
                  go_ret
                  exact ⟨rfl, hnx6.trans (hb7.mono hnx6.size)⟩
              · rw [if_neg (by omega)] at hper
                have HP := Lib.hid hper
                clear hper
                go_wp2_with (go_at_call 5; refine (parse_no_l m mx hm2 HP.out tp tq p q _ H0.out H1.out).mono ?_; rintro e w7 ⟨rfl, hb7⟩)
                go_ret
                exact ⟨rfl, hnx6.trans (hb7.mono hnx6.size)⟩
    · have hq' : (y / 10 == 0) = false := beq_eq_false_iff_ne.2 hq
      have HS := Lib.hid (tie1_on ht.out y0 hq)
      clear ht HT
      go_wp2_with (at_builtin; refine wpList_append_own _ rfl (.tmp 19) (.tmp 24) 31 rfl w.heap.size 5 i0 (.int .u8 0) 1 1 Ybad.underlying31 hi hz0 hz1 hz2 rfl (by decide) _ _ _ rfl (hown.alloc _) ⟨wr.heap.size, 0, none⟩ 1 1 [Value.int .u8 (48 + y % 10)] rfl rfl (by intro j u' hj; match j, hj with | 0, hj => simp at hj; subst hj; simp [Addr.add]) (by intro u' hu'; simp at hu'; subst hu'; rfl) (by unfold maxLen; omega) (by omega) (by simp; omega) ?_; intro v1 w1 hown1 hgrow _; refine Hid.out ?_)
      refine Lib.hid ?_
      have R1 := own_snoc hown1 (byte_of y y0)
      have R2 := below_append hnx (by omega) hown hgrow
      have hl' := HS.out.1
      clear hown hown1 hgrow hnx hsz
      go_wp2
      go_roundw
      case rel => exact ⟨f - 1, y / 10, _, rfl, by omega, by omega, by omega, R1, R2, HS⟩
      case measure => simp [intOf]; omega

set_option maxHeartbeats 4000000 in
set_option maxRecDepth 100000 in
theorem built_2 (u sg zs mx : Int) (u0 : 0 ≤ u) (u1 : u ≤ 18446744073709551615) (s0 : 0 ≤ sg) (s1 : sg ≤ 255) (z0 : 0 ≤ zs) (z1 : zs ≤ 255) (k1 : (sg % 3 == 1) = false) (k2 : (sg % 3 == 2) = true) (k3 : (sg % 3 != 2) = false) (tp tq : TypeId) (p q : Value) (w : World)
    (V0 : Hid (w.var? Ybad.prog "strconv.ErrSyntax" = some #[.iface tp p])) (V1 : Hid (w.var? Ybad.prog "strconv.ErrRange" = some #[.iface tq q])) (hw0 : 0 < w.heap.size) (hw1 : 1 < w.heap.size) :
    Calls Ybad.prog 4 #[.int .u64 u, .int .u8 sg, .int .u8 zs, .int .i64 mx] w fun e w' => e = .returned (.bool true) ∧ Below w.heap.size w w' := by
  obtain ⟨i0, hi, hz0, hz1, hz2⟩ := info_parts infoByte
  have HT := Lib.hid (tie1_start u u0 u1)
  obtain ⟨z, hz⟩ : ∃ z : Nat, zs % 4 = (z : Int) := ⟨(zs % 4).toNat, by omega⟩
  have hz3 : z ≤ 3 := by omega
  have h37 : ∀ w, (binOp .eql 23 (.iface 28 (.int .i64 37)) (.iface 28 (.int .i64 37))).run Ybad.prog w = .ok (.bool true) w := fun _ => by kernel_rfl
  go_enter Ybad.func4, Ybad.ntmps4
  go_wp2
  go_loopw [9, 10] (fun v x wr => ∃ (f : Nat) (y : Int) (ds : List UInt8), x = .int .u64 y ∧ 0 ≤ y ∧ y ≤ 18446744073709551615 ∧ ds.length ≤ 19 ∧ wr.ownsRow w.heap.size 5 1 v ds.length (bcs ds) ∧ Below w.heap.size w wr ∧ Hid (Tie1 u f y ds)) (fun _ x _ => (intOf x).toNat)
  case atStart => exact ⟨19, u, [], rfl, u0, u1, by simp, World.ownsRow_nil _ _ _ _, Below.refl _ _, HT⟩
  case round =>
    obtain ⟨f, y, ds, rfl, y0, y1, hl, hown, hnx, ht⟩ := hrel
    have hsz := hnx.size
    by_cases hq : y / 10 = 0
    · have hq' : (y / 10 == 0) = true := beq_iff_eq.2 hq
      have HS := Lib.hid (tie1_stop ht.out y0 hq)
      clear hq ht HT
      go_wp2_with (at_builtin; refine wpList_append_own _ rfl (.tmp 19) (.tmp 24) 31 rfl w.heap.size 5 i0 (.int .u8 0) 1 1 Ybad.underlying31 hi hz0 hz1 hz2 rfl (by decide) _ _ _ rfl (hown.alloc _) ⟨wr.heap.size, 0, none⟩ 1 1 [Value.int .u8 (48 + y % 10)] rfl rfl (by intro j u' hj; match j, hj with | 0, hj => simp at hj; subst hj; simp [Addr.add]) (by intro u' hu'; simp at hu'; subst hu'; rfl) (by unfold maxLen; omega) (by omega) (by simp; omega) ?_; intro v1 w1 hown1 hgrow _; refine Hid.out ?_)
      refine Lib.hid ?_
      have R1 := own_snoc hown1 (byte_of y y0)
      have R2 := below_append hnx (by omega) hown hgrow
      rw [← HS.out] at R1
      obtain ⟨D, hD⟩ : ∃ D, D = revF 20 u.toNat := ⟨_, rfl⟩
      rw [← hD] at R1
      have hD1 : 0 < D.length := by rw [hD, HS.out]; simp
      have hD2 : D.length ≤ 20 := by rw [hD]; exact revF_len 20 _
      have HD := Lib.hid hD
      obtain ⟨g, cap, hv, hg, hcell⟩ := own_open R1 hD1
      rw [hv]
      clear hown1 hgrow hown hnx hsz HS hD R1 hv hl
      go_wp2_with (at_builtin; refine wpList_append_own _ rfl (.tmp 40) (.tmp 41) 31 rfl w1.heap.size 5 i0 (.int .u8 0) 1 1 Ybad.underlying31 hi hz0 hz1 hz2 rfl (by decide) _ _ _ rfl ((World.ownsRow_nil w1 w1.heap.size 5 1).alloc _) ⟨w1.heap.size, 0, none⟩ 1 1 [Value.int .u8 45] rfl rfl (by intro j u' hj; match j, hj with | 0, hj => simp at hj; subst hj; simp [Addr.add]) (by intro u' hu'; simp at hu'; subst hu'; rfl) (by unfold maxLen; omega) (by omega) (by simp) ?_; intro v2 w2 hown2a hgrow2a _; refine Hid.out ?_)
      refine Lib.hid ?_
      have S1 := own_snoc (ds := []) (c := 45) hown2a rfl
      have S2 := below_append (Below.refl w1.heap.size w1) (Nat.le_refl _) (World.ownsRow_nil w1 w1.heap.size 5 1) hgrow2a
      clear hown2a hgrow2a
      go_wp2
      go_loopw [11, 13] (fun v i wr2 => ∃ (j : Nat) (l : List UInt8), i = .int .i64 j ∧ j ≤ z ∧ l.length ≤ 1 + j ∧ wr2.ownsRow w1.heap.size 5 1 v l.length (bcs l) ∧ Below w1.heap.size w1 wr2 ∧ Hid (l = sgn 2 ++ List.replicate j 48)) (fun _ i _ => z - (intOf i).toNat)
      case atStart => exact ⟨0, _, rfl, by omega, by simp, S1, S2, Lib.hid rfl⟩
      case round =>
        obtain ⟨j, l, rfl, hj, hl1, hown2, hnx2, HL⟩ := hrel
        have hsz2 := hnx2.size
        by_cases hjz : j < z
        · go_wp2_with (at_builtin; refine wpList_append_own _ rfl (.tmp 50) (.tmp 51) 31 rfl w1.heap.size 5 i0 (.int .u8 0) 1 1 Ybad.underlying31 hi hz0 hz1 hz2 rfl (by decide) _ _ _ rfl (hown2.alloc _) ⟨wr.heap.size, 0, none⟩ 1 1 [Value.int .u8 48] rfl rfl (by intro j u' hj; match j, hj with | 0, hj => simp at hj; subst hj; simp [Addr.add]) (by intro u' hu'; simp at hu'; subst hu'; rfl) (by unfold maxLen; omega) (by omega) (by simp; omega) ?_; intro v3 w3 hown3 hgrow3 _; refine Hid.out ?_)
          refine Lib.hid ?_
          have R3 := own_snoc (c := 48) hown3 rfl
          have R4 := below_append hnx2 (by omega) hown2 hgrow3
          have HL' : Hid (l ++ [48] = sgn 2 ++ List.replicate (j + 1) 48) := Lib.hid (by rw [HL.out, List.append_assoc]; congr 1; exact List.replicate_succ'.symm)
          clear hown2 hown3 hgrow3 hnx2 hsz2 HL
          go_wp2
          go_roundw
          case rel => exact ⟨j + 1, _, by go_num, by omega, by simp; omega, R3, R4, HL'⟩
          case measure => simp [intOf]; omega
        · have hjj : j = z := by omega
          subst hjj
          clear hjz
          go_wp2
          go_loopw [11, 14] (fun v i wr3 => ∃ (a : Int) (m : List UInt8), i = .int .i64 a ∧ -1 ≤ a ∧ a < (D.length : Int) ∧ (m.length : Int) + a + 1 ≤ (l.length : Int) + (D.length : Int) ∧ 0 < (m.length : Int) + a + 1 ∧ wr3.ownsRow w1.heap.size 5 1 v m.length (bcs m) ∧ Below w1.heap.size w1 wr3 ∧ Hid (m = l ++ (D.drop (a + 1).toNat).reverse)) (fun _ i _ => (intOf i + 1).toNat)
          case atStart => exact ⟨_, l, rfl, by omega, by omega, by omega, by omega, hown2, hnx2, Lib.hid (loop3_start l D)⟩
          case round =>
            clear hown2 hnx2 hsz2 hz
            obtain ⟨a, m, rfl, ha0, ha1, hml, hmp, hown4, hnx4, HM⟩ := hrel
            have hsz4 := hnx4.size
            by_cases ha : 0 ≤ a
            · obtain ⟨i, rfl⟩ : ∃ i : Nat, a = i := ⟨a.toNat, by omega⟩
              have hiD : i < D.length := by omega
              have hc4 := (hnx4.cell (p := ⟨g, i, none⟩) hg).trans (hcell i hiD)
              go_wp2_with (at_builtin; refine wpList_append_own _ rfl (.tmp 60) (.tmp 65) 31 rfl w1.heap.size 5 i0 (.int .u8 0) 1 1 Ybad.underlying31 hi hz0 hz1 hz2 rfl (by decide) _ _ _ rfl (hown4.alloc _) ⟨wr.heap.size, 0, none⟩ 1 1 [Value.int .u8 ((D[i]'hiD).toNat : Int)] rfl rfl (by intro j u' hj; match j, hj with | 0, hj => simp at hj; subst hj; simp [Addr.add]) (by intro u' hu'; simp at hu'; subst hu'; rfl) (by unfold maxLen; omega) (by omega) (by simp; omega) ?_; intro v5 w5 hown5 hgrow5 _; refine Hid.out ?_)
              refine Lib.hid ?_
              have R5 := own_snoc (c := D[i]) hown5 rfl
              have R6 := below_append hnx4 (by omega) hown4 hgrow5
              have HM' := Lib.hid (loop3_on l D m i hiD HM.out)
              clear hown4 hown5 hgrow5 hnx4 hsz4 HM hc4
              go_wp2
              go_roundw
              case rel => exact ⟨(i : Int) - 1, _, rfl, by omega, by omega, by simp; omega, by simp; omega, R5, R6, HM'⟩
              case measure => simp [intOf] <;> omega
            · have ha' : a = -1 := by omega
              subst ha'
              have hmm := loop3_end (k := 2) HM.out HL.out HD.out
              have hper := built_period 2 j u.toNat mx (by omega) (by omega)
              have hun : ((u.toNat : Nat) : Int) = u := by omega
              rw [← hmm, hun] at hper
              clear hun
              have hm1 : 0 < m.length := by omega
              obtain ⟨g6, cap6, hv6, hg6, hcell6⟩ := own_open hown4 hm1
              have hcv := run_convert_bytes_back (P := Ybad.prog) wr 31 9 5 ⟨g6, 0, none⟩ cap6 m Ybad.underlying31 Ybad.underlying5 Ybad.underlying9 (cells_add hcell6)
              rw [hv6]
              have hnx6 : Below w.heap.size w wr := R2.trans (hnx4.mono R2.size)
              have hm2 : m.length ≤ 1000 := by omega
              clear hown4 hcell6 hcell HM HL HD hv6 hmm
              have H0 := Lib.hid (var?_below hnx6 gES hw0 V0.out)
              have H1 := Lib.hid (var?_below hnx6 gER hw1 V1.out)
              rw [if_neg (by omega)] at hper
              have HP := Lib.hid hper
              clear hper
              go_wp2_with (go_at_call 5; refine (parse_no_l m mx hm2 HP.out tp tq p q _ H0.out H1.out).mono ?_; rintro e w7 ⟨rfl, hb7⟩)
              go_ret
              exact ⟨rfl, hnx6.trans (hb7.mono hnx6.size)⟩
    · have hq' : (y / 10 == 0) = false := beq_eq_false_iff_ne.2 hq
      have HS := Lib.hid (tie1_on ht.out y0 hq)
      clear ht HT
      go_wp2_with (at_builtin; refine wpList_append_own _ rfl (.tmp 19) (.tmp 24) 31 rfl w.heap.size 5 i0 (.int .u8 0) 1 1 Ybad.underlying31 hi hz0 hz1 hz2 rfl (by decide) _ _ _ rfl (hown.alloc _) ⟨wr.heap.size, 0, none⟩ 1 1 [Value.int .u8 (48 + y % 10)] rfl rfl (by intro j u' hj; match j, hj with | 0, hj => simp at hj; subst hj; simp [Addr.add]) (by intro u' hu'; simp at hu'; subst hu'; rfl) (by unfold maxLen; omega) (by omega) (by simp; omega) ?_; intro v1 w1 hown1 hgrow _; refine Hid.out ?_)
      refine Lib.hid ?_
      have R1 := own_snoc hown1 (byte_of y y0)
      have R2 := below_append hnx (by omega) hown hgrow
      have hl' := HS.out.1
      clear hown hown1 hgrow hnx hsz
      go_wp2
      go_roundw
      case rel => exact ⟨f - 1, y / 10, _, rfl, by omega, by omega, by omega, R1, R2, HS⟩
      case measure => simp [intOf]; omega
end Go.Proofs.YbulkdojgDoor
