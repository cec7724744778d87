/-
  Seat b5767aD: the walk of the law's own writer 'zzs5767cformat' (function 7).
-/
import Derived.Test.YbulkdokiDoorRows
import Derived.Test.YbulkdokiDoorText
import Derived.Lib.Strings
import Derived.WalkKit
import Derived.WalkSpells
import Derived.BigCall
import Derived.BigGuard
import Derived.Lib.Hide
import Derived.OwnWalk
import Derived.Laws.IdiomStrings
import Derived.WalkSmall
namespace Go.Proofs.YbulkdokiDoor
open Go.RowKit
set_option linter.unusedVariables false

/-- The cells of a row of bytes. -/
def bcs (l : List UInt8) : List Value := l.map fun b => Value.int .u8 b.toNat

theorem infoByte : (Ybad.prog.info? 5).map (fun i => (i.zero, i.size, i.bytes)) = some (some (.int .u8 0), 1, 1) := by kernel_rfl

theorem own_snoc {w : World} {B : Nat} {v : Value} {ds : List UInt8} {c : UInt8} {x : Int} (h : w.ownsRow B 5 1 v (ds.length + 1) (bcs ds ++ [.int .u8 x])) (hx : x = (c.toNat : Int)) :
    w.ownsRow B 5 1 v (ds ++ [c]).length (bcs (ds ++ [c])) := by
  subst hx
  have e1 : bcs (ds ++ [c]) = bcs ds ++ [.int .u8 c.toNat] := by simp [bcs]
  have e2 : (ds ++ [c]).length = ds.length + 1 := by simp
  rw [e1, e2]
  exact h

theorem below_append {B : Nat} {a w w1 : World} {v : Value} {n : Nat} {xs : List Value} {o : Obj} (hb : Below B a w) (hB : B ≤ w.heap.size) (hown : w.ownsRow B 5 1 v n xs) (hg : (w.alloc o).grownBy w1 v.ownBlock) : Below B a w1 :=
  (hb.alloc hB _).grown hg (by simp; omega) (fun k hk => (hown.lt k hk).1)

theorem own_open {w : World} {B : Nat} {v : Value} {D : List UInt8} (h : w.ownsRow B 5 1 v D.length (bcs D)) (hne : 0 < D.length) :
    ∃ g cap, v = .slice (some ⟨g, 0, none⟩) D.length cap ∧ g < w.heap.size ∧ ∀ (j : Nat) (hj : j < D.length), w.cell? ⟨g, j, none⟩ = some (.int .u8 ((D[j]'hj).toNat : Int)) := by
  rcases h.2 with ⟨_, h0⟩ | ⟨g, cap, cur, rfl, _, _, _, _, _, _⟩
  · omega
  · refine ⟨g, cap, rfl, (h.lt g rfl).2, fun j hj => ?_⟩
    have := h.cells (g := g) rfl j (.int .u8 ((D[j]'hj).toNat : Int)) (by simp [bcs, hj])
    by_cases h0 : j = 0
    · subst h0
      simpa [Addr.add] using this
    · simpa [Addr.add, h0] using this

theorem cells_add {w : World} {g : Nat} {m : List UInt8} (h : ∀ (j : Nat) (hj : j < m.length), w.cell? ⟨g, j, none⟩ = some (.int .u8 ((m[j]'hj).toNat : Int))) :
    ∀ (j : Nat) (hj : j < m.length), w.cell? ((⟨g, 0, none⟩ : Addr).add j) = some (.int .u8 ((m[j]'hj).toNat : Int)) := by
  intro j hj
  have := h j hj
  by_cases h0 : j = 0
  · subst h0
    simpa [Addr.add] using this
  · simpa [Addr.add, h0] using this

theorem rev_step (D : List UInt8) (i : Nat) (h : i < D.length) : (D.drop i).reverse = (D.drop (i + 1)).reverse ++ [D[i]] := by
  rw [List.drop_eq_getElem_cons h, List.reverse_cons]

theorem own_two {w : World} {B : Nat} {v : Value} (h : w.ownsRow B 5 1 v (0 + 2) ([] ++ [.int .u8 48, .int .u8 120])) : w.ownsRow B 5 1 v ([48, 120] : List UInt8).length (bcs [48, 120]) := h

theorem loop3_on (l D m : List UInt8) (i : Nat) (h : i < D.length) (hm : m = l ++ (D.drop ((i : Int) + 1).toNat).reverse) : m ++ [D[i]] = l ++ (D.drop ((i : Int) - 1 + 1).toNat).reverse := by
  have e1 : ((i : Int) + 1).toNat = i + 1 := by omega
  have e2 : ((i : Int) - 1 + 1).toNat = i := by omega
  rw [hm, e1, e2, rev_step D i h, List.append_assoc]

theorem loop3_start (l D : List UInt8) : l = l ++ (D.drop ((D.length : Int) - 1 + 1).toNat).reverse := by
  have e : ((D.length : Int) - 1 + 1).toNat = D.length := by omega
  rw [e]
  simp

theorem loop3_end {l D m : List UInt8} {hex up : Bool} {z n : Nat} (hm : m = l ++ (D.drop ((-1 : Int) + 1).toNat).reverse) (hl : l = pfx hex ++ List.replicate z 48) (hD : D = revB (bas hex) up 10 n) : m = text hex up z n := by
  rw [hm, hl, hD, text, mag, List.append_assoc]
  rfl

/-- The first loop's tie to the plain digits, base 10. -/
def Tie10 (up : Bool) (n : Int) (f : Nat) (y : Int) (ds : List UInt8) : Prop := ds.length + (f + 1) = 10 ∧ y.toNat < 10 ^ (f + 1) ∧ revB 10 up 10 n.toNat = ds ++ revB 10 up (f + 1) y.toNat

theorem tie10_start (up : Bool) (n : Int) (h0 : 0 ≤ n) (h1 : n ≤ 4294967295) : Tie10 up n 9 n [] := ⟨rfl, by omega, rfl⟩

theorem tie10_stop {up : Bool} {n : Int} {f : Nat} {y : Int} {ds : List UInt8} (h : Tie10 up n f y ds) (h0 : 0 ≤ y) (hq : y / 10 = 0) : revB 10 up 10 n.toNat = ds ++ [UInt8.ofNat (chr up (y.toNat % 10))] := by
  obtain ⟨_, _, h3⟩ := h
  have e : y.toNat / 10 = 0 := by omega
  rw [h3, revB, if_pos e]

theorem tie10_on {up : Bool} {n : Int} {f : Nat} {y : Int} {ds : List UInt8} (h : Tie10 up n f y ds) (h0 : 0 ≤ y) (hq : ¬ y / 10 = 0) : Tie10 up n (f - 1) (y / 10) (ds ++ [UInt8.ofNat (chr up (y.toNat % 10))]) := by
  obtain ⟨h1, h2, h3⟩ := h
  have e : ¬ y.toNat / 10 = 0 := by omega
  have e2 : (y / 10).toNat = y.toNat / 10 := by omega
  cases f with
  | zero => simp at h2; omega
  | succ f =>
    refine ⟨?_, ?_, ?_⟩
    · simp
      omega
    · rw [e2]
      rw [Nat.pow_succ] at h2
      simp
      omega
    · rw [h3, revB, if_neg e, e2]
      simp

/-- The first loop's tie to the plain digits, base 16. -/
def Tie16 (up : Bool) (n : Int) (f : Nat) (y : Int) (ds : List UInt8) : Prop := ds.length + (f + 1) = 10 ∧ y.toNat < 16 ^ (f + 1) ∧ revB 16 up 10 n.toNat = ds ++ revB 16 up (f + 1) y.toNat

theorem tie16_start (up : Bool) (n : Int) (h0 : 0 ≤ n) (h1 : n ≤ 4294967295) : Tie16 up n 9 n [] := ⟨rfl, by omega, rfl⟩

theorem tie16_stop {up : Bool} {n : Int} {f : Nat} {y : Int} {ds : List UInt8} (h : Tie16 up n f y ds) (h0 : 0 ≤ y) (hq : y / 16 = 0) : revB 16 up 10 n.toNat = ds ++ [UInt8.ofNat (chr up (y.toNat % 16))] := by
  obtain ⟨_, _, h3⟩ := h
  have e : y.toNat / 16 = 0 := by omega
  rw [h3, revB, if_pos e]

theorem tie16_on {up : Bool} {n : Int} {f : Nat} {y : Int} {ds : List UInt8} (h : Tie16 up n f y ds) (h0 : 0 ≤ y) (hq : ¬ y / 16 = 0) : Tie16 up n (f - 1) (y / 16) (ds ++ [UInt8.ofNat (chr up (y.toNat % 16))]) := by
  obtain ⟨h1, h2, h3⟩ := h
  have e : ¬ y.toNat / 16 = 0 := by omega
  have e2 : (y / 16).toNat = y.toNat / 16 := by omega
  cases f with
  | zero => simp at h2; omega
  | succ f =>
    refine ⟨?_, ?_, ?_⟩
    · simp
      omega
    · rw [e2]
      rw [Nat.pow_succ] at h2
      simp
      omega
    · rw [h3, revB, if_neg e, e2]
      simp

theorem byte_lo10 (up : Bool) (y : Int) (h0 : 0 ≤ y) (hd : y % 10 < 10) : 48 + y % 10 = ((UInt8.ofNat (chr up (y.toNat % 10))).toNat : Int) := by
  rw [chr_toNat up _ (by omega), chr, if_pos (by omega)]
  omega

theorem byte_lo16 (up : Bool) (y : Int) (h0 : 0 ≤ y) (hd : y % 16 < 10) : 48 + y % 16 = ((UInt8.ofNat (chr up (y.toNat % 16))).toNat : Int) := by
  rw [chr_toNat up _ (by omega), chr, if_pos (by omega)]
  omega

theorem byte_up (y : Int) (h0 : 0 ≤ y) (hd : 10 ≤ y % 16) : 65 + y % 16 - 10 = ((UInt8.ofNat (chr true (y.toNat % 16))).toNat : Int) := by
  rw [chr_toNat true _ (by omega), chr, if_neg (by omega)]
  simp
  omega

theorem byte_low (y : Int) (h0 : 0 ≤ y) (hd : 10 ≤ y % 16) : 97 + y % 16 - 10 = ((UInt8.ofNat (chr false (y.toNat % 16))).toNat : Int) := by
  rw [chr_toNat false _ (by omega), chr, if_neg (by omega)]
  simp
  omega

set_option maxHeartbeats 8000000 in
set_option maxRecDepth 100000 in
theorem format_dec (up : Bool) (n z : Int) (n0 : 0 ≤ n) (n1 : n ≤ 4294967295) (z0 : 0 ≤ z) (z1 : z ≤ 3) (w : World) :
    Calls Ybad.prog 7 #[.int .u32 n, .bool false, .bool up, .int .i64 z] w fun e w' => e = .returned (.string ⟨(text false up z.toNat n.toNat).toArray⟩) ∧ Below w.heap.size w w' := by
  obtain ⟨i0, hi, hz0, hz1, hz2⟩ := info_parts infoByte
  have HT := Lib.hid (tie10_start up n n0 n1)
  go_enter Ybad.func7, Ybad.ntmps7
  go_wp2
  go_loopw [10, 11] (fun v x wr => ∃ (f : Nat) (y : Int) (ds : List UInt8), x = .int .u32 y ∧ 0 ≤ y ∧ y ≤ 4294967295 ∧ ds.length ≤ 9 ∧ wr.ownsRow w.heap.size 5 1 v ds.length (bcs ds) ∧ Below w.heap.size w wr ∧ Hid (Tie10 up n f y ds)) (fun _ x _ => (intOf x).toNat)
  case atStart => exact ⟨9, n, [], rfl, n0, n1, by simp, World.ownsRow_nil _ _ _ _, Below.refl _ _, HT⟩
  case round =>
    obtain ⟨f, y, ds, rfl, y0, y1, hl, hown, hnx, ht⟩ := hrel
    have hsz := hnx.size
    by_cases hq : y / 10 = 0
    · have hq' : (y / 10 == 0) = true := beq_iff_eq.2 hq
      have HS := Lib.hid (tie10_stop ht.out y0 hq)
      clear hq ht HT
      have hd : y % 10 < 10 := by omega
      go_wp2_with (at_builtin; refine wpList_append_own _ rfl (.tmp 34) (.tmp 36) 35 rfl w.heap.size 5 i0 (.int .u8 0) 1 1 Ybad.underlying35 hi hz0 hz1 hz2 rfl (by decide) _ _ _ rfl (hown.alloc _) ⟨wr.heap.size, 0, none⟩ 1 1 [Value.int .u8 (48 + y % 10)] rfl rfl (by intro j u' hj; match j, hj with | 0, hj => simp at hj; subst hj; simp [Addr.add]) (by intro u' hu'; simp at hu'; subst hu'; rfl) (by unfold maxLen; omega) (by omega) (by simp; omega) ?_; intro v1 w1 hown1 hgrow _; refine Hid.out ?_)
      refine Lib.hid ?_
      have R1 := own_snoc hown1 (byte_lo10 up y y0 hd)
      have R2 := below_append hnx (by omega) hown hgrow
      rw [← HS.out] at R1
      obtain ⟨D, hD⟩ : ∃ D, D = revB 10 up 10 n.toNat := ⟨_, rfl⟩
      rw [← hD] at R1
      have hD1 : 0 < D.length := by rw [hD]; simp [revB]
      have hD2 : D.length ≤ 10 := by rw [hD]; exact revB_len 10 up 10 _
      have HD := Lib.hid hD
      obtain ⟨g, cap, hv, hg, hcell⟩ := own_open R1 hD1
      rw [hv]
      clear hown1 hgrow hown hnx hsz HS hD R1 hv hl
      go_wp2
      go_loopw [14, 15] (fun v i wr2 => ∃ (j : Nat) (l : List UInt8), i = .int .i64 j ∧ (j : Int) ≤ z ∧ l.length ≤ 2 + j ∧ wr2.ownsRow w1.heap.size 5 1 v l.length (bcs l) ∧ Below w1.heap.size w1 wr2 ∧ Hid (l = pfx false ++ List.replicate j 48)) (fun _ i _ => (z - intOf i).toNat)
      case atStart => exact ⟨0, [], rfl, by omega, by simp, World.ownsRow_nil _ _ _ _, Below.refl _ _, Lib.hid rfl⟩
      case round =>
        obtain ⟨j, l, rfl, hj, hl1, hown2, hnx2, HL⟩ := hrel
        have hsz2 := hnx2.size
        by_cases hjz : (j : Int) < z
        · go_wp2_with (at_builtin; refine wpList_append_own _ rfl (.tmp 52) (.tmp 53) 35 rfl w1.heap.size 5 i0 (.int .u8 0) 1 1 Ybad.underlying35 hi hz0 hz1 hz2 rfl (by decide) _ _ _ rfl (hown2.alloc _) ⟨wr.heap.size, 0, none⟩ 1 1 [Value.int .u8 48] rfl rfl (by intro j u' hj; match j, hj with | 0, hj => simp at hj; subst hj; simp [Addr.add]) (by intro u' hu'; simp at hu'; subst hu'; rfl) (by unfold maxLen; omega) (by omega) (by simp; omega) ?_; intro v3 w3 hown3 hgrow3 _; refine Hid.out ?_)
          refine Lib.hid ?_
          have R3 := own_snoc (c := 48) hown3 rfl
          have R4 := below_append hnx2 (by omega) hown2 hgrow3
          have HL' : Hid (l ++ [48] = pfx false ++ List.replicate (j + 1) 48) := Lib.hid (by rw [HL.out, List.append_assoc]; congr 1; exact List.replicate_succ'.symm)
          clear hown2 hown3 hgrow3 hnx2 hsz2 HL
          go_wp2
          go_roundw
          case rel => exact ⟨j + 1, _, by go_num, by omega, by simp; omega, R3, R4, HL'⟩
          case measure => simp [intOf]; omega
        · have hjj : j = z.toNat := by omega
          have HJ := Lib.hid hjj
          clear hjj
          go_wp2
          go_loopw [14, 16] (fun v i wr3 => ∃ (a : Int) (m : List UInt8), i = .int .i64 a ∧ -1 ≤ a ∧ a < (D.length : Int) ∧ (m.length : Int) + a + 1 ≤ (l.length : Int) + (D.length : Int) ∧ 0 < (m.length : Int) + a + 1 ∧ wr3.ownsRow w1.heap.size 5 1 v m.length (bcs m) ∧ Below w1.heap.size w1 wr3 ∧ Hid (m = l ++ (D.drop (a + 1).toNat).reverse)) (fun _ i _ => (intOf i + 1).toNat)
          case atStart => exact ⟨_, l, rfl, by omega, by omega, by omega, by omega, hown2, hnx2, Lib.hid (loop3_start l D)⟩
          case round =>
            clear hown2 hnx2 hsz2
            obtain ⟨a, m, rfl, ha0, ha1, hml, hmp, hown4, hnx4, HM⟩ := hrel
            have hsz4 := hnx4.size
            by_cases ha : 0 ≤ a
            · obtain ⟨i, rfl⟩ : ∃ i : Nat, a = i := ⟨a.toNat, by omega⟩
              have hiD : i < D.length := by omega
              have hc4 := (hnx4.cell (p := ⟨g, i, none⟩) hg).trans (hcell i hiD)
              go_wp2_with (at_builtin; refine wpList_append_own _ rfl (.tmp 62) (.tmp 67) 35 rfl w1.heap.size 5 i0 (.int .u8 0) 1 1 Ybad.underlying35 hi hz0 hz1 hz2 rfl (by decide) _ _ _ rfl (hown4.alloc _) ⟨wr.heap.size, 0, none⟩ 1 1 [Value.int .u8 ((D[i]'hiD).toNat : Int)] rfl rfl (by intro j u' hj; match j, hj with | 0, hj => simp at hj; subst hj; simp [Addr.add]) (by intro u' hu'; simp at hu'; subst hu'; rfl) (by unfold maxLen; omega) (by omega) (by simp; omega) ?_; intro v5 w5 hown5 hgrow5 _; refine Hid.out ?_)
              refine Lib.hid ?_
              have R5 := own_snoc (c := D[i]) hown5 rfl
              have R6 := below_append hnx4 (by omega) hown4 hgrow5
              have HM' := Lib.hid (loop3_on l D m i hiD HM.out)
              clear hown4 hown5 hgrow5 hnx4 hsz4 HM hc4
              go_wp2
              go_roundw
              case rel => exact ⟨(i : Int) - 1, _, rfl, by omega, by omega, by simp; omega, by simp; omega, R5, R6, HM'⟩
              case measure => simp [intOf] <;> omega
            · have ha' : a = -1 := by omega
              subst ha'
              have HL2 := HL.out
              rw [HJ.out] at HL2
              have hmm := loop3_end (hex := false) (up := up) HM.out HL2 HD.out
              have HMM := Lib.hid hmm
              have hm1 : 0 < m.length := by omega
              obtain ⟨g6, cap6, hv6, hg6, hcell6⟩ := own_open hown4 hm1
              have hcv := run_convert_bytes_back (P := Ybad.prog) wr 35 9 5 ⟨g6, 0, none⟩ cap6 m Ybad.underlying35 Ybad.underlying5 Ybad.underlying9 (cells_add hcell6)
              rw [hv6]
              have hnx6 : Below w.heap.size w wr := R2.trans (hnx4.mono R2.size)
              clear hown4 hcell6 hcell HM HL HL2 HD hv6 hmm
              go_wp2
              go_ret
              exact ⟨by rw [← HMM.out]; rfl, hnx6⟩
    · have hq' : (y / 10 == 0) = false := beq_eq_false_iff_ne.2 hq
      have HS := Lib.hid (tie10_on ht.out y0 hq)
      clear ht HT
      have hd : y % 10 < 10 := by omega
      go_wp2_with (at_builtin; refine wpList_append_own _ rfl (.tmp 34) (.tmp 36) 35 rfl w.heap.size 5 i0 (.int .u8 0) 1 1 Ybad.underlying35 hi hz0 hz1 hz2 rfl (by decide) _ _ _ rfl (hown.alloc _) ⟨wr.heap.size, 0, none⟩ 1 1 [Value.int .u8 (48 + y % 10)] rfl rfl (by intro j u' hj; match j, hj with | 0, hj => simp at hj; subst hj; simp [Addr.add]) (by intro u' hu'; simp at hu'; subst hu'; rfl) (by unfold maxLen; omega) (by omega) (by simp; omega) ?_; intro v1 w1 hown1 hgrow _; refine Hid.out ?_)
      refine Lib.hid ?_
      have R1 := own_snoc hown1 (byte_lo10 up y y0 hd)
      have R2 := below_append hnx (by omega) hown hgrow
      have hl' := HS.out.1
      clear hown hown1 hgrow hnx hsz
      go_wp2
      go_roundw
      case rel => exact ⟨f - 1, y / 10, _, rfl, by omega, by omega, by omega, R1, R2, HS⟩
      case measure => simp [intOf]; omega

set_option maxHeartbeats 8000000 in
set_option maxRecDepth 100000 in
theorem format_up (n z : Int) (n0 : 0 ≤ n) (n1 : n ≤ 4294967295) (z0 : 0 ≤ z) (z1 : z ≤ 3) (w : World) :
    Calls Ybad.prog 7 #[.int .u32 n, .bool true, .bool true, .int .i64 z] w fun e w' => e = .returned (.string ⟨(text true true z.toNat n.toNat).toArray⟩) ∧ Below w.heap.size w w' := by
  obtain ⟨i0, hi, hz0, hz1, hz2⟩ := info_parts infoByte
  have HT := Lib.hid (tie16_start true n n0 n1)
  go_enter Ybad.func7, Ybad.ntmps7
  go_wp2
  go_loopw [10, 11] (fun v x wr => ∃ (f : Nat) (y : Int) (ds : List UInt8), x = .int .u32 y ∧ 0 ≤ y ∧ y ≤ 4294967295 ∧ ds.length ≤ 9 ∧ wr.ownsRow w.heap.size 5 1 v ds.length (bcs ds) ∧ Below w.heap.size w wr ∧ Hid (Tie16 true n f y ds)) (fun _ x _ => (intOf x).toNat)
  case atStart => exact ⟨9, n, [], rfl, n0, n1, by simp, World.ownsRow_nil _ _ _ _, Below.refl _ _, HT⟩
  case round =>
    obtain ⟨f, y, ds, rfl, y0, y1, hl, hown, hnx, ht⟩ := hrel
    have hsz := hnx.size
    by_cases hq : y / 16 = 0
    · have hq' : (y / 16 == 0) = true := beq_iff_eq.2 hq
      have HS := Lib.hid (tie16_stop ht.out y0 hq)
      clear hq ht HT
      by_cases hd : y % 16 < 10
      · go_wp2_with (at_builtin; refine wpList_append_own _ rfl (.tmp 34) (.tmp 36) 35 rfl w.heap.size 5 i0 (.int .u8 0) 1 1 Ybad.underlying35 hi hz0 hz1 hz2 rfl (by decide) _ _ _ rfl (hown.alloc _) ⟨wr.heap.size, 0, none⟩ 1 1 [Value.int .u8 (48 + y % 16)] rfl rfl (by intro j u' hj; match j, hj with | 0, hj => simp at hj; subst hj; simp [Addr.add]) (by intro u' hu'; simp at hu'; subst hu'; rfl) (by unfold maxLen; omega) (by omega) (by simp; omega) ?_; intro v1 w1 hown1 hgrow _; refine Hid.out ?_)
        refine Lib.hid ?_
        have R1 := own_snoc hown1 (byte_lo16 true y y0 hd)
        have R2 := below_append hnx (by omega) hown hgrow
        rw [← HS.out] at R1
        obtain ⟨D, hD⟩ : ∃ D, D = revB 16 true 10 n.toNat := ⟨_, rfl⟩
        rw [← hD] at R1
        have hD1 : 0 < D.length := by rw [hD]; simp [revB]
        have hD2 : D.length ≤ 10 := by rw [hD]; exact revB_len 16 true 10 _
        have HD := Lib.hid hD
        obtain ⟨g, cap, hv, hg, hcell⟩ := own_open R1 hD1
        rw [hv]
        clear hown1 hgrow hown hnx hsz HS hD R1 hv hl
        go_wp2_with (at_builtin; refine wpList_append_own _ rfl (.tmp 44) (.tmp 45) 35 rfl w1.heap.size 5 i0 (.int .u8 0) 1 1 Ybad.underlying35 hi hz0 hz1 hz2 rfl (by decide) _ _ _ rfl ((World.ownsRow_nil w1 w1.heap.size 5 1).alloc _) ⟨w1.heap.size, 0, none⟩ 2 2 [Value.int .u8 48, Value.int .u8 120] rfl rfl (by intro j u' hj; match j, hj with | 0, hj => simp at hj; subst hj; simp [Addr.add] | 1, hj => simp at hj; subst hj; simp [Addr.add]) (by intro u' hu'; simp at hu'; rcases hu' with rfl | rfl <;> rfl) (by unfold maxLen; omega) (by omega) (by simp) ?_; intro v2 w2 hown2a hgrow2a _; refine Hid.out ?_)
        refine Lib.hid ?_
        have S1 := own_two hown2a
        have S2 := below_append (Below.refl w1.heap.size w1) (Nat.le_refl _) (World.ownsRow_nil w1 w1.heap.size 5 1) hgrow2a
        clear hown2a hgrow2a
        go_wp2
        go_loopw [14, 15] (fun v i wr2 => ∃ (j : Nat) (l : List UInt8), i = .int .i64 j ∧ (j : Int) ≤ z ∧ l.length ≤ 2 + j ∧ wr2.ownsRow w1.heap.size 5 1 v l.length (bcs l) ∧ Below w1.heap.size w1 wr2 ∧ Hid (l = pfx true ++ List.replicate j 48)) (fun _ i _ => (z - intOf i).toNat)
        case atStart => exact ⟨0, _, rfl, by omega, by simp, S1, S2, Lib.hid rfl⟩
        case round =>
          obtain ⟨j, l, rfl, hj, hl1, hown2, hnx2, HL⟩ := hrel
          have hsz2 := hnx2.size
          by_cases hjz : (j : Int) < z
          · go_wp2_with (at_builtin; refine wpList_append_own _ rfl (.tmp 52) (.tmp 53) 35 rfl w1.heap.size 5 i0 (.int .u8 0) 1 1 Ybad.underlying35 hi hz0 hz1 hz2 rfl (by decide) _ _ _ rfl (hown2.alloc _) ⟨wr.heap.size, 0, none⟩ 1 1 [Value.int .u8 48] rfl rfl (by intro j u' hj; match j, hj with | 0, hj => simp at hj; subst hj; simp [Addr.add]) (by intro u' hu'; simp at hu'; subst hu'; rfl) (by unfold maxLen; omega) (by omega) (by simp; omega) ?_; intro v3 w3 hown3 hgrow3 _; refine Hid.out ?_)
            refine Lib.hid ?_
            have R3 := own_snoc (c := 48) hown3 rfl
            have R4 := below_append hnx2 (by omega) hown2 hgrow3
            have HL' : Hid (l ++ [48] = pfx true ++ List.replicate (j + 1) 48) := Lib.hid (by rw [HL.out, List.append_assoc]; congr 1; exact List.replicate_succ'.symm)
            clear hown2 hown3 hgrow3 hnx2 hsz2 HL
            go_wp2
            go_roundw
            case rel => exact ⟨j + 1, _, by go_num, by omega, by simp; omega, R3, R4, HL'⟩
            case measure => simp [intOf]; omega
          · have hjj : j = z.toNat := by omega
            have HJ := Lib.hid hjj
            clear hjj
            go_wp2
            go_loopw [14, 16] (fun v i wr3 => ∃ (a : Int) (m : List UInt8), i = .int .i64 a ∧ -1 ≤ a ∧ a < (D.length : Int) ∧ (m.length : Int) + a + 1 ≤ (l.length : Int) + (D.length : Int) ∧ 0 < (m.length : Int) + a + 1 ∧ wr3.ownsRow w1.heap.size 5 1 v m.length (bcs m) ∧ Below w1.heap.size w1 wr3 ∧ Hid (m = l ++ (D.drop (a + 1).toNat).reverse)) (fun _ i _ => (intOf i + 1).toNat)
            case atStart => exact ⟨_, l, rfl, by omega, by omega, by omega, by omega, hown2, hnx2, Lib.hid (loop3_start l D)⟩
            case round =>
              clear hown2 hnx2 hsz2
              obtain ⟨a, m, rfl, ha0, ha1, hml, hmp, hown4, hnx4, HM⟩ := hrel
              have hsz4 := hnx4.size
              by_cases ha : 0 ≤ a
              · obtain ⟨i, rfl⟩ : ∃ i : Nat, a = i := ⟨a.toNat, by omega⟩
                have hiD : i < D.length := by omega
                have hc4 := (hnx4.cell (p := ⟨g, i, none⟩) hg).trans (hcell i hiD)
                go_wp2_with (at_builtin; refine wpList_append_own _ rfl (.tmp 62) (.tmp 67) 35 rfl w1.heap.size 5 i0 (.int .u8 0) 1 1 Ybad.underlying35 hi hz0 hz1 hz2 rfl (by decide) _ _ _ rfl (hown4.alloc _) ⟨wr.heap.size, 0, none⟩ 1 1 [Value.int .u8 ((D[i]'hiD).toNat : Int)] rfl rfl (by intro j u' hj; match j, hj with | 0, hj => simp at hj; subst hj; simp [Addr.add]) (by intro u' hu'; simp at hu'; subst hu'; rfl) (by unfold maxLen; omega) (by omega) (by simp; omega) ?_; intro v5 w5 hown5 hgrow5 _; refine Hid.out ?_)
                refine Lib.hid ?_
                have R5 := own_snoc (c := D[i]) hown5 rfl
                have R6 := below_append hnx4 (by omega) hown4 hgrow5
                have HM' := Lib.hid (loop3_on l D m i hiD HM.out)
                clear hown4 hown5 hgrow5 hnx4 hsz4 HM hc4
                go_wp2
                go_roundw
                case rel => exact ⟨(i : Int) - 1, _, rfl, by omega, by omega, by simp; omega, by simp; omega, R5, R6, HM'⟩
                case measure => simp [intOf] <;> omega
              · have ha' : a = -1 := by omega
                subst ha'
                have HL2 := HL.out
                rw [HJ.out] at HL2
                have hmm := loop3_end (hex := true) (up := true) HM.out HL2 HD.out
                have HMM := Lib.hid hmm
                have hm1 : 0 < m.length := by omega
                obtain ⟨g6, cap6, hv6, hg6, hcell6⟩ := own_open hown4 hm1
                have hcv := run_convert_bytes_back (P := Ybad.prog) wr 35 9 5 ⟨g6, 0, none⟩ cap6 m Ybad.underlying35 Ybad.underlying5 Ybad.underlying9 (cells_add hcell6)
                rw [hv6]
                have hnx6 : Below w.heap.size w wr := R2.trans (hnx4.mono R2.size)
                clear hown4 hcell6 hcell HM HL HL2 HD hv6 hmm
                go_wp2
                go_ret
                exact ⟨by rw [← HMM.out]; rfl, hnx6⟩
      · go_wp2_with (at_builtin; refine wpList_append_own _ rfl (.tmp 34) (.tmp 36) 35 rfl w.heap.size 5 i0 (.int .u8 0) 1 1 Ybad.underlying35 hi hz0 hz1 hz2 rfl (by decide) _ _ _ rfl (hown.alloc _) ⟨wr.heap.size, 0, none⟩ 1 1 [Value.int .u8 (65 + y % 16 - 10)] rfl rfl (by intro j u' hj; match j, hj with | 0, hj => simp at hj; subst hj; simp [Addr.add]) (by intro u' hu'; simp at hu'; subst hu'; rfl) (by unfold maxLen; omega) (by omega) (by simp; omega) ?_; intro v1 w1 hown1 hgrow _; refine Hid.out ?_)
        refine Lib.hid ?_
        have R1 := own_snoc hown1 (byte_up y y0 hd)
        have R2 := below_append hnx (by omega) hown hgrow
        rw [← HS.out] at R1
        obtain ⟨D, hD⟩ : ∃ D, D = revB 16 true 10 n.toNat := ⟨_, rfl⟩
        rw [← hD] at R1
        have hD1 : 0 < D.length := by rw [hD]; simp [revB]
        have hD2 : D.length ≤ 10 := by rw [hD]; exact revB_len 16 true 10 _
        have HD := Lib.hid hD
        obtain ⟨g, cap, hv, hg, hcell⟩ := own_open R1 hD1
        rw [hv]
        clear hown1 hgrow hown hnx hsz HS hD R1 hv hl
        go_wp2_with (at_builtin; refine wpList_append_own _ rfl (.tmp 44) (.tmp 45) 35 rfl w1.heap.size 5 i0 (.int .u8 0) 1 1 Ybad.underlying35 hi hz0 hz1 hz2 rfl (by decide) _ _ _ rfl ((World.ownsRow_nil w1 w1.heap.size 5 1).alloc _) ⟨w1.heap.size, 0, none⟩ 2 2 [Value.int .u8 48, Value.int .u8 120] rfl rfl (by intro j u' hj; match j, hj with | 0, hj => simp at hj; subst hj; simp [Addr.add] | 1, hj => simp at hj; subst hj; simp [Addr.add]) (by intro u' hu'; simp at hu'; rcases hu' with rfl | rfl <;> rfl) (by unfold maxLen; omega) (by omega) (by simp) ?_; intro v2 w2 hown2a hgrow2a _; refine Hid.out ?_)
        refine Lib.hid ?_
        have S1 := own_two hown2a
        have S2 := below_append (Below.refl w1.heap.size w1) (Nat.le_refl _) (World.ownsRow_nil w1 w1.heap.size 5 1) hgrow2a
        clear hown2a hgrow2a
        go_wp2
        go_loopw [14, 15] (fun v i wr2 => ∃ (j : Nat) (l : List UInt8), i = .int .i64 j ∧ (j : Int) ≤ z ∧ l.length ≤ 2 + j ∧ wr2.ownsRow w1.heap.size 5 1 v l.length (bcs l) ∧ Below w1.heap.size w1 wr2 ∧ Hid (l = pfx true ++ List.replicate j 48)) (fun _ i _ => (z - intOf i).toNat)
        case atStart => exact ⟨0, _, rfl, by omega, by simp, S1, S2, Lib.hid rfl⟩
        case round =>
          obtain ⟨j, l, rfl, hj, hl1, hown2, hnx2, HL⟩ := hrel
          have hsz2 := hnx2.size
          by_cases hjz : (j : Int) < z
          · go_wp2_with (at_builtin; refine wpList_append_own _ rfl (.tmp 52) (.tmp 53) 35 rfl w1.heap.size 5 i0 (.int .u8 0) 1 1 Ybad.underlying35 hi hz0 hz1 hz2 rfl (by decide) _ _ _ rfl (hown2.alloc _) ⟨wr.heap.size, 0, none⟩ 1 1 [Value.int .u8 48] rfl rfl (by intro j u' hj; match j, hj with | 0, hj => simp at hj; subst hj; simp [Addr.add]) (by intro u' hu'; simp at hu'; subst hu'; rfl) (by unfold maxLen; omega) (by omega) (by simp; omega) ?_; intro v3 w3 hown3 hgrow3 _; refine Hid.out ?_)
            refine Lib.hid ?_
            have R3 := own_snoc (c := 48) hown3 rfl
            have R4 := below_append hnx2 (by omega) hown2 hgrow3
            have HL' : Hid (l ++ [48] = pfx true ++ List.replicate (j + 1) 48) := Lib.hid (by rw [HL.out, List.append_assoc]; congr 1; exact List.replicate_succ'.symm)
            clear hown2 hown3 hgrow3 hnx2 hsz2 HL
            go_wp2
            go_roundw
            case rel => exact ⟨j + 1, _, by go_num, by omega, by simp; omega, R3, R4, HL'⟩
            case measure => simp [intOf]; omega
          · have hjj : j = z.toNat := by omega
            have HJ := Lib.hid hjj
            clear hjj
            go_wp2
            go_loopw [14, 16] (fun v i wr3 => ∃ (a : Int) (m : List UInt8), i = .int .i64 a ∧ -1 ≤ a ∧ a < (D.length : Int) ∧ (m.length : Int) + a + 1 ≤ (l.length : Int) + (D.length : Int) ∧ 0 < (m.length : Int) + a + 1 ∧ wr3.ownsRow w1.heap.size 5 1 v m.length (bcs m) ∧ Below w1.heap.size w1 wr3 ∧ Hid (m = l ++ (D.drop (a + 1).toNat).reverse)) (fun _ i _ => (intOf i + 1).toNat)
            case atStart => exact ⟨_, l, rfl, by omega, by omega, by omega, by omega, hown2, hnx2, Lib.hid (loop3_start l D)⟩
            case round =>
              clear hown2 hnx2 hsz2
              obtain ⟨a, m, rfl, ha0, ha1, hml, hmp, hown4, hnx4, HM⟩ := hrel
              have hsz4 := hnx4.size
              by_cases ha : 0 ≤ a
              · obtain ⟨i, rfl⟩ : ∃ i : Nat, a = i := ⟨a.toNat, by omega⟩
                have hiD : i < D.length := by omega
                have hc4 := (hnx4.cell (p := ⟨g, i, none⟩) hg).trans (hcell i hiD)
                go_wp2_with (at_builtin; refine wpList_append_own _ rfl (.tmp 62) (.tmp 67) 35 rfl w1.heap.size 5 i0 (.int .u8 0) 1 1 Ybad.underlying35 hi hz0 hz1 hz2 rfl (by decide) _ _ _ rfl (hown4.alloc _) ⟨wr.heap.size, 0, none⟩ 1 1 [Value.int .u8 ((D[i]'hiD).toNat : Int)] rfl rfl (by intro j u' hj; match j, hj with | 0, hj => simp at hj; subst hj; simp [Addr.add]) (by intro u' hu'; simp at hu'; subst hu'; rfl) (by unfold maxLen; omega) (by omega) (by simp; omega) ?_; intro v5 w5 hown5 hgrow5 _; refine Hid.out ?_)
                refine Lib.hid ?_
                have R5 := own_snoc (c := D[i]) hown5 rfl
                have R6 := below_append hnx4 (by omega) hown4 hgrow5
                have HM' := Lib.hid (loop3_on l D m i hiD HM.out)
                clear hown4 hown5 hgrow5 hnx4 hsz4 HM hc4
                go_wp2
                go_roundw
                case rel => exact ⟨(i : Int) - 1, _, rfl, by omega, by omega, by simp; omega, by simp; omega, R5, R6, HM'⟩
                case measure => simp [intOf] <;> omega
              · have ha' : a = -1 := by omega
                subst ha'
                have HL2 := HL.out
                rw [HJ.out] at HL2
                have hmm := loop3_end (hex := true) (up := true) HM.out HL2 HD.out
                have HMM := Lib.hid hmm
                have hm1 : 0 < m.length := by omega
                obtain ⟨g6, cap6, hv6, hg6, hcell6⟩ := own_open hown4 hm1
                have hcv := run_convert_bytes_back (P := Ybad.prog) wr 35 9 5 ⟨g6, 0, none⟩ cap6 m Ybad.underlying35 Ybad.underlying5 Ybad.underlying9 (cells_add hcell6)
                rw [hv6]
                have hnx6 : Below w.heap.size w wr := R2.trans (hnx4.mono R2.size)
                clear hown4 hcell6 hcell HM HL HL2 HD hv6 hmm
                go_wp2
                go_ret
                exact ⟨by rw [← HMM.out]; rfl, hnx6⟩
    · have hq' : (y / 16 == 0) = false := beq_eq_false_iff_ne.2 hq
      have HS := Lib.hid (tie16_on ht.out y0 hq)
      clear ht HT
      by_cases hd : y % 16 < 10
      · go_wp2_with (at_builtin; refine wpList_append_own _ rfl (.tmp 34) (.tmp 36) 35 rfl w.heap.size 5 i0 (.int .u8 0) 1 1 Ybad.underlying35 hi hz0 hz1 hz2 rfl (by decide) _ _ _ rfl (hown.alloc _) ⟨wr.heap.size, 0, none⟩ 1 1 [Value.int .u8 (48 + y % 16)] rfl rfl (by intro j u' hj; match j, hj with | 0, hj => simp at hj; subst hj; simp [Addr.add]) (by intro u' hu'; simp at hu'; subst hu'; rfl) (by unfold maxLen; omega) (by omega) (by simp; omega) ?_; intro v1 w1 hown1 hgrow _; refine Hid.out ?_)
        refine Lib.hid ?_
        have R1 := own_snoc hown1 (byte_lo16 true y y0 hd)
        have R2 := below_append hnx (by omega) hown hgrow
        have hl' := HS.out.1
        clear hown hown1 hgrow hnx hsz
        go_wp2
        go_roundw
        case rel => exact ⟨f - 1, y / 16, _, rfl, by omega, by omega, by omega, R1, R2, HS⟩
        case measure => simp [intOf]; omega
      · go_wp2_with (at_builtin; refine wpList_append_own _ rfl (.tmp 34) (.tmp 36) 35 rfl w.heap.size 5 i0 (.int .u8 0) 1 1 Ybad.underlying35 hi hz0 hz1 hz2 rfl (by decide) _ _ _ rfl (hown.alloc _) ⟨wr.heap.size, 0, none⟩ 1 1 [Value.int .u8 (65 + y % 16 - 10)] rfl rfl (by intro j u' hj; match j, hj with | 0, hj => simp at hj; subst hj; simp [Addr.add]) (by intro u' hu'; simp at hu'; subst hu'; rfl) (by unfold maxLen; omega) (by omega) (by simp; omega) ?_; intro v1 w1 hown1 hgrow _; refine Hid.out ?_)
        refine Lib.hid ?_
        have R1 := own_snoc hown1 (byte_up y y0 hd)
        have R2 := below_append hnx (by omega) hown hgrow
        have hl' := HS.out.1
        clear hown hown1 hgrow hnx hsz
        go_wp2
        go_roundw
        case rel => exact ⟨f - 1, y / 16, _, rfl, by omega, by omega, by omega, R1, R2, HS⟩
        case measure => simp [intOf]; omega

set_option maxHeartbeats 8000000 in
set_option maxRecDepth 100000 in
theorem format_low (n z : Int) (n0 : 0 ≤ n) (n1 : n ≤ 4294967295) (z0 : 0 ≤ z) (z1 : z ≤ 3) (w : World) :
    Calls Ybad.prog 7 #[.int .u32 n, .bool true, .bool false, .int .i64 z] w fun e w' => e = .returned (.string ⟨(text true false z.toNat n.toNat).toArray⟩) ∧ Below w.heap.size w w' := by
  obtain ⟨i0, hi, hz0, hz1, hz2⟩ := info_parts infoByte
  have HT := Lib.hid (tie16_start false n n0 n1)
  go_enter Ybad.func7, Ybad.ntmps7
  go_wp2
  go_loopw [10, 11] (fun v x wr => ∃ (f : Nat) (y : Int) (ds : List UInt8), x = .int .u32 y ∧ 0 ≤ y ∧ y ≤ 4294967295 ∧ ds.length ≤ 9 ∧ wr.ownsRow w.heap.size 5 1 v ds.length (bcs ds) ∧ Below w.heap.size w wr ∧ Hid (Tie16 false n f y ds)) (fun _ x _ => (intOf x).toNat)
  case atStart => exact ⟨9, n, [], rfl, n0, n1, by simp, World.ownsRow_nil _ _ _ _, Below.refl _ _, HT⟩
  case round =>
    obtain ⟨f, y, ds, rfl, y0, y1, hl, hown, hnx, ht⟩ := hrel
    have hsz := hnx.size
    by_cases hq : y / 16 = 0
    · have hq' : (y / 16 == 0) = true := beq_iff_eq.2 hq
      have HS := Lib.hid (tie16_stop ht.out y0 hq)
      clear hq ht HT
      by_cases hd : y % 16 < 10
      · go_wp2_with (at_builtin; refine wpList_append_own _ rfl (.tmp 34) (.tmp 36) 35 rfl w.heap.size 5 i0 (.int .u8 0) 1 1 Ybad.underlying35 hi hz0 hz1 hz2 rfl (by decide) _ _ _ rfl (hown.alloc _) ⟨wr.heap.size, 0, none⟩ 1 1 [Value.int .u8 (48 + y % 16)] rfl rfl (by intro j u' hj; match j, hj with | 0, hj => simp at hj; subst hj; simp [Addr.add]) (by intro u' hu'; simp at hu'; subst hu'; rfl) (by unfold maxLen; omega) (by omega) (by simp; omega) ?_; intro v1 w1 hown1 hgrow _; refine Hid.out ?_)
        refine Lib.hid ?_
        have R1 := own_snoc hown1 (byte_lo16 false y y0 hd)
        have R2 := below_append hnx (by omega) hown hgrow
        rw [← HS.out] at R1
        obtain ⟨D, hD⟩ : ∃ D, D = revB 16 false 10 n.toNat := ⟨_, rfl⟩
        rw [← hD] at R1
        have hD1 : 0 < D.length := by rw [hD]; simp [revB]
        have hD2 : D.length ≤ 10 := by rw [hD]; exact revB_len 16 false 10 _
        have HD := Lib.hid hD
        obtain ⟨g, cap, hv, hg, hcell⟩ := own_open R1 hD1
        rw [hv]
        clear hown1 hgrow hown hnx hsz HS hD R1 hv hl
        go_wp2_with (at_builtin; refine wpList_append_own _ rfl (.tmp 44) (.tmp 45) 35 rfl w1.heap.size 5 i0 (.int .u8 0) 1 1 Ybad.underlying35 hi hz0 hz1 hz2 rfl (by decide) _ _ _ rfl ((World.ownsRow_nil w1 w1.heap.size 5 1).alloc _) ⟨w1.heap.size, 0, none⟩ 2 2 [Value.int .u8 48, Value.int .u8 120] rfl rfl (by intro j u' hj; match j, hj with | 0, hj => simp at hj; subst hj; simp [Addr.add] | 1, hj => simp at hj; subst hj; simp [Addr.add]) (by intro u' hu'; simp at hu'; rcases hu' with rfl | rfl <;> rfl) (by unfold maxLen; omega) (by omega) (by simp) ?_; intro v2 w2 hown2a hgrow2a _; refine Hid.out ?_)
        refine Lib.hid ?_
        have S1 := own_two hown2a
        have S2 := below_append (Below.refl w1.heap.size w1) (Nat.le_refl _) (World.ownsRow_nil w1 w1.heap.size 5 1) hgrow2a
        clear hown2a hgrow2a
        go_wp2
        go_loopw [14, 15] (fun v i wr2 => ∃ (j : Nat) (l : List UInt8), i = .int .i64 j ∧ (j : Int) ≤ z ∧ l.length ≤ 2 + j ∧ wr2.ownsRow w1.heap.size 5 1 v l.length (bcs l) ∧ Below w1.heap.size w1 wr2 ∧ Hid (l = pfx true ++ List.replicate j 48)) (fun _ i _ => (z - intOf i).toNat)
        case atStart => exact ⟨0, _, rfl, by omega, by simp, S1, S2, Lib.hid rfl⟩
        case round =>
          obtain ⟨j, l, rfl, hj, hl1, hown2, hnx2, HL⟩ := hrel
          have hsz2 := hnx2.size
          by_cases hjz : (j : Int) < z
          · go_wp2_with (at_builtin; refine wpList_append_own _ rfl (.tmp 52) (.tmp 53) 35 rfl w1.heap.size 5 i0 (.int .u8 0) 1 1 Ybad.underlying35 hi hz0 hz1 hz2 rfl (by decide) _ _ _ rfl (hown2.alloc _) ⟨wr.heap.size, 0, none⟩ 1 1 [Value.int .u8 48] rfl rfl (by intro j u' hj; match j, hj with | 0, hj => simp at hj; subst hj; simp [Addr.add]) (by intro u' hu'; simp at hu'; subst hu'; rfl) (by unfold maxLen; omega) (by omega) (by simp; omega) ?_; intro v3 w3 hown3 hgrow3 _; refine Hid.out ?_)
            refine Lib.hid ?_
            have R3 := own_snoc (c := 48) hown3 rfl
            have R4 := below_append hnx2 (by omega) hown2 hgrow3
            have HL' : Hid (l ++ [48] = pfx true ++ List.replicate (j + 1) 48) := Lib.hid (by rw [HL.out, List.append_assoc]; congr 1; exact List.replicate_succ'.symm)
            clear hown2 hown3 hgrow3 hnx2 hsz2 HL
            go_wp2
            go_roundw
            case rel => exact ⟨j + 1, _, by go_num, by omega, by simp; omega, R3, R4, HL'⟩
            case measure => simp [intOf]; omega
          · have hjj : j = z.toNat := by omega
            have HJ := Lib.hid hjj
            clear hjj
            go_wp2
            go_loopw [14, 16] (fun v i wr3 => ∃ (a : Int) (m : List UInt8), i = .int .i64 a ∧ -1 ≤ a ∧ a < (D.length : Int) ∧ (m.length : Int) + a + 1 ≤ (l.length : Int) + (D.length : Int) ∧ 0 < (m.length : Int) + a + 1 ∧ wr3.ownsRow w1.heap.size 5 1 v m.length (bcs m) ∧ Below w1.heap.size w1 wr3 ∧ Hid (m = l ++ (D.drop (a + 1).toNat).reverse)) (fun _ i _ => (intOf i + 1).toNat)
            case atStart => exact ⟨_, l, rfl, by omega, by omega, by omega, by omega, hown2, hnx2, Lib.hid (loop3_start l D)⟩
            case round =>
              clear hown2 hnx2 hsz2
              obtain ⟨a, m, rfl, ha0, ha1, hml, hmp, hown4, hnx4, HM⟩ := hrel
              have hsz4 := hnx4.size
              by_cases ha : 0 ≤ a
              · obtain ⟨i, rfl⟩ : ∃ i : Nat, a = i := ⟨a.toNat, by omega⟩
                have hiD : i < D.length := by omega
                have hc4 := (hnx4.cell (p := ⟨g, i, none⟩) hg).trans (hcell i hiD)
                go_wp2_with (at_builtin; refine wpList_append_own _ rfl (.tmp 62) (.tmp 67) 35 rfl w1.heap.size 5 i0 (.int .u8 0) 1 1 Ybad.underlying35 hi hz0 hz1 hz2 rfl (by decide) _ _ _ rfl (hown4.alloc _) ⟨wr.heap.size, 0, none⟩ 1 1 [Value.int .u8 ((D[i]'hiD).toNat : Int)] rfl rfl (by intro j u' hj; match j, hj with | 0, hj => simp at hj; subst hj; simp [Addr.add]) (by intro u' hu'; simp at hu'; subst hu'; rfl) (by unfold maxLen; omega) (by omega) (by simp; omega) ?_; intro v5 w5 hown5 hgrow5 _; refine Hid.out ?_)
                refine Lib.hid ?_
                have R5 := own_snoc (c := D[i]) hown5 rfl
                have R6 := below_append hnx4 (by omega) hown4 hgrow5
                have HM' := Lib.hid (loop3_on l D m i hiD HM.out)
                clear hown4 hown5 hgrow5 hnx4 hsz4 HM hc4
                go_wp2
                go_roundw
                case rel => exact ⟨(i : Int) - 1, _, rfl, by omega, by omega, by simp; omega, by simp; omega, R5, R6, HM'⟩
                case measure => simp [intOf] <;> omega
              · have ha' : a = -1 := by omega
                subst ha'
                have HL2 := HL.out
                rw [HJ.out] at HL2
                have hmm := loop3_end (hex := true) (up := false) HM.out HL2 HD.out
                have HMM := Lib.hid hmm
                have hm1 : 0 < m.length := by omega
                obtain ⟨g6, cap6, hv6, hg6, hcell6⟩ := own_open hown4 hm1
                have hcv := run_convert_bytes_back (P := Ybad.prog) wr 35 9 5 ⟨g6, 0, none⟩ cap6 m Ybad.underlying35 Ybad.underlying5 Ybad.underlying9 (cells_add hcell6)
                rw [hv6]
                have hnx6 : Below w.heap.size w wr := R2.trans (hnx4.mono R2.size)
                clear hown4 hcell6 hcell HM HL HL2 HD hv6 hmm
                go_wp2
                go_ret
                exact ⟨by rw [← HMM.out]; rfl, hnx6⟩
      · go_wp2_with (at_builtin; refine wpList_append_own _ rfl (.tmp 34) (.tmp 36) 35 rfl w.heap.size 5 i0 (.int .u8 0) 1 1 Ybad.underlying35 hi hz0 hz1 hz2 rfl (by decide) _ _ _ rfl (hown.alloc _) ⟨wr.heap.size, 0, none⟩ 1 1 [Value.int .u8 (97 + y % 16 - 10)] rfl rfl (by intro j u' hj; match j, hj with | 0, hj => simp at hj; subst hj; simp [Addr.add]) (by intro u' hu'; simp at hu'; subst hu'; rfl) (by unfold maxLen; omega) (by omega) (by simp; omega) ?_; intro v1 w1 hown1 hgrow _; refine Hid.out ?_)
        refine Lib.hid ?_
        have R1 := own_snoc hown1 (byte_low y y0 hd)
        have R2 := below_append hnx (by omega) hown hgrow
        rw [← HS.out] at R1
        obtain ⟨D, hD⟩ : ∃ D, D = revB 16 false 10 n.toNat := ⟨_, rfl⟩
        rw [← hD] at R1
        have hD1 : 0 < D.length := by rw [hD]; simp [revB]
        have hD2 : D.length ≤ 10 := by rw [hD]; exact revB_len 16 false 10 _
        have HD := Lib.hid hD
        obtain ⟨g, cap, hv, hg, hcell⟩ := own_open R1 hD1
        rw [hv]
        clear hown1 hgrow hown hnx hsz HS hD R1 hv hl
        go_wp2_with (at_builtin; refine wpList_append_own _ rfl (.tmp 44) (.tmp 45) 35 rfl w1.heap.size 5 i0 (.int .u8 0) 1 1 Ybad.underlying35 hi hz0 hz1 hz2 rfl (by decide) _ _ _ rfl ((World.ownsRow_nil w1 w1.heap.size 5 1).alloc _) ⟨w1.heap.size, 0, none⟩ 2 2 [Value.int .u8 48, Value.int .u8 120] rfl rfl (by intro j u' hj; match j, hj with | 0, hj => simp at hj; subst hj; simp [Addr.add] | 1, hj => simp at hj; subst hj; simp [Addr.add]) (by intro u' hu'; simp at hu'; rcases hu' with rfl | rfl <;> rfl) (by unfold maxLen; omega) (by omega) (by simp) ?_; intro v2 w2 hown2a hgrow2a _; refine Hid.out ?_)
        refine Lib.hid ?_
        have S1 := own_two hown2a
        have S2 := below_append (Below.refl w1.heap.size w1) (Nat.le_refl _) (World.ownsRow_nil w1 w1.heap.size 5 1) hgrow2a
        clear hown2a hgrow2a
        go_wp2
        go_loopw [14, 15] (fun v i wr2 => ∃ (j : Nat) (l : List UInt8), i = .int .i64 j ∧ (j : Int) ≤ z ∧ l.length ≤ 2 + j ∧ wr2.ownsRow w1.heap.size 5 1 v l.length (bcs l) ∧ Below w1.heap.size w1 wr2 ∧ Hid (l = pfx true ++ List.replicate j 48)) (fun _ i _ => (z - intOf i).toNat)
        case atStart => exact ⟨0, _, rfl, by omega, by simp, S1, S2, Lib.hid rfl⟩
        case round =>
          obtain ⟨j, l, rfl, hj, hl1, hown2, hnx2, HL⟩ := hrel
          have hsz2 := hnx2.size
          by_cases hjz : (j : Int) < z
          · go_wp2_with (at_builtin; refine wpList_append_own _ rfl (.tmp 52) (.tmp 53) 35 rfl w1.heap.size 5 i0 (.int .u8 0) 1 1 Ybad.underlying35 hi hz0 hz1 hz2 rfl (by decide) _ _ _ rfl (hown2.alloc _) ⟨wr.heap.size, 0, none⟩ 1 1 [Value.int .u8 48] rfl rfl (by intro j u' hj; match j, hj with | 0, hj => simp at hj; subst hj; simp [Addr.add]) (by intro u' hu'; simp at hu'; subst hu'; rfl) (by unfold maxLen; omega) (by omega) (by simp; omega) ?_; intro v3 w3 hown3 hgrow3 _; refine Hid.out ?_)
            refine Lib.hid ?_
            have R3 := own_snoc (c := 48) hown3 rfl
            have R4 := below_append hnx2 (by omega) hown2 hgrow3
            have HL' : Hid (l ++ [48] = pfx true ++ List.replicate (j + 1) 48) := Lib.hid (by rw [HL.out, List.append_assoc]; congr 1; exact List.replicate_succ'.symm)
            clear hown2 hown3 hgrow3 hnx2 hsz2 HL
            go_wp2
            go_roundw
            case rel => exact ⟨j + 1, _, by go_num, by omega, by simp; omega, R3, R4, HL'⟩
            case measure => simp [intOf]; omega
          · have hjj : j = z.toNat := by omega
            have HJ := Lib.hid hjj
            clear hjj
            go_wp2
            go_loopw [14, 16] (fun v i wr3 => ∃ (a : Int) (m : List UInt8), i = .int .i64 a ∧ -1 ≤ a ∧ a < (D.length : Int) ∧ (m.length : Int) + a + 1 ≤ (l.length : Int) + (D.length : Int) ∧ 0 < (m.length : Int) + a + 1 ∧ wr3.ownsRow w1.heap.size 5 1 v m.length (bcs m) ∧ Below w1.heap.size w1 wr3 ∧ Hid (m = l ++ (D.drop (a + 1).toNat).reverse)) (fun _ i _ => (intOf i + 1).toNat)
            case atStart => exact ⟨_, l, rfl, by omega, by omega, by omega, by omega, hown2, hnx2, Lib.hid (loop3_start l D)⟩
            case round =>
              clear hown2 hnx2 hsz2
              obtain ⟨a, m, rfl, ha0, ha1, hml, hmp, hown4, hnx4, HM⟩ := hrel
              have hsz4 := hnx4.size
              by_cases ha : 0 ≤ a
              · obtain ⟨i, rfl⟩ : ∃ i : Nat, a = i := ⟨a.toNat, by omega⟩
                have hiD : i < D.length := by omega
                have hc4 := (hnx4.cell (p := ⟨g, i, none⟩) hg).trans (hcell i hiD)
                go_wp2_with (at_builtin; refine wpList_append_own _ rfl (.tmp 62) (.tmp 67) 35 rfl w1.heap.size 5 i0 (.int .u8 0) 1 1 Ybad.underlying35 hi hz0 hz1 hz2 rfl (by decide) _ _ _ rfl (hown4.alloc _) ⟨wr.heap.size, 0, none⟩ 1 1 [Value.int .u8 ((D[i]'hiD).toNat : Int)] rfl rfl (by intro j u' hj; match j, hj with | 0, hj => simp at hj; subst hj; simp [Addr.add]) (by intro u' hu'; simp at hu'; subst hu'; rfl) (by unfold maxLen; omega) (by omega) (by simp; omega) ?_; intro v5 w5 hown5 hgrow5 _; refine Hid.out ?_)
                refine Lib.hid ?_
                have R5 := own_snoc (c := D[i]) hown5 rfl
                have R6 := below_append hnx4 (by omega) hown4 hgrow5
                have HM' := Lib.hid (loop3_on l D m i hiD HM.out)
                clear hown4 hown5 hgrow5 hnx4 hsz4 HM hc4
                go_wp2
                go_roundw
                case rel => exact ⟨(i : Int) - 1, _, rfl, by omega, by omega, by simp; omega, by simp; omega, R5, R6, HM'⟩
                case measure => simp [intOf] <;> omega
              · have ha' : a = -1 := by omega
                subst ha'
                have HL2 := HL.out
                rw [HJ.out] at HL2
                have hmm := loop3_end (hex := true) (up := false) HM.out HL2 HD.out
                have HMM := Lib.hid hmm
                have hm1 : 0 < m.length := by omega
                obtain ⟨g6, cap6, hv6, hg6, hcell6⟩ := own_open hown4 hm1
                have hcv := run_convert_bytes_back (P := Ybad.prog) wr 35 9 5 ⟨g6, 0, none⟩ cap6 m Ybad.underlying35 Ybad.underlying5 Ybad.underlying9 (cells_add hcell6)
                rw [hv6]
                have hnx6 : Below w.heap.size w wr := R2.trans (hnx4.mono R2.size)
                clear hown4 hcell6 hcell HM HL HL2 HD hv6 hmm
                go_wp2
                go_ret
                exact ⟨by rw [← HMM.out]; rfl, hnx6⟩
    · have hq' : (y / 16 == 0) = false := beq_eq_false_iff_ne.2 hq
      have HS := Lib.hid (tie16_on ht.out y0 hq)
      clear ht HT
      by_cases hd : y % 16 < 10
      · go_wp2_with (at_builtin; refine wpList_append_own _ rfl (.tmp 34) (.tmp 36) 35 rfl w.heap.size 5 i0 (.int .u8 0) 1 1 Ybad.underlying35 hi hz0 hz1 hz2 rfl (by decide) _ _ _ rfl (hown.alloc _) ⟨wr.heap.size, 0, none⟩ 1 1 [Value.int .u8 (48 + y % 16)] rfl rfl (by intro j u' hj; match j, hj with | 0, hj => simp at hj; subst hj; simp [Addr.add]) (by intro u' hu'; simp at hu'; subst hu'; rfl) (by unfold maxLen; omega) (by omega) (by simp; omega) ?_; intro v1 w1 hown1 hgrow _; refine Hid.out ?_)
        refine Lib.hid ?_
        have R1 := own_snoc hown1 (byte_lo16 false y y0 hd)
        have R2 := below_append hnx (by omega) hown hgrow
        have hl' := HS.out.1
        clear hown hown1 hgrow hnx hsz
        go_wp2
        go_roundw
        case rel => exact ⟨f - 1, y / 16, _, rfl, by omega, by omega, by omega, R1, R2, HS⟩
        case measure => simp [intOf]; omega
      · go_wp2_with (at_builtin; refine wpList_append_own _ rfl (.tmp 34) (.tmp 36) 35 rfl w.heap.size 5 i0 (.int .u8 0) 1 1 Ybad.underlying35 hi hz0 hz1 hz2 rfl (by decide) _ _ _ rfl (hown.alloc _) ⟨wr.heap.size, 0, none⟩ 1 1 [Value.int .u8 (97 + y % 16 - 10)] rfl rfl (by intro j u' hj; match j, hj with | 0, hj => simp at hj; subst hj; simp [Addr.add]) (by intro u' hu'; simp at hu'; subst hu'; rfl) (by unfold maxLen; omega) (by omega) (by simp; omega) ?_; intro v1 w1 hown1 hgrow _; refine Hid.out ?_)
        refine Lib.hid ?_
        have R1 := own_snoc hown1 (byte_low y y0 hd)
        have R2 := below_append hnx (by omega) hown hgrow
        have hl' := HS.out.1
        clear hown hown1 hgrow hnx hsz
        go_wp2
        go_roundw
        case rel => exact ⟨f - 1, y / 16, _, rfl, by omega, by omega, by omega, R1, R2, HS⟩
        case measure => simp [intOf]; omega

end Go.Proofs.YbulkdokiDoor
