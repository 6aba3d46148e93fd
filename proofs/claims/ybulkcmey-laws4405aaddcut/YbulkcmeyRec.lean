/-
  Contracts of the library's and the record package's byte functions at this program, with frames that name the one row that may turn.
-/
import Derived.Test.YbulkcmeyProg
import Derived.Test.YbulkcmeyPlain
import Derived.WalkKit
import Derived.OwnWalk
import Derived.Lib.Endian
import Derived.Lib.EndianBits
import Derived.Lib.AppendStr
import Derived.Lib.UnsafeStr
import Derived.Lib.Slices
import Derived.Lib.Walk
import Derived.RegionTactic
import Derived.Deep.Draws
import Derived.Laws.BytesArg
import Derived.Lib.SliceRun
import Derived.Stop.LaidErr
import Derived.Laws.AppendOwnNone
namespace Go.Proofs.Ybulkcmey.Rec
open Go.RowKit

theorem info5 : (Yba.prog.info? 5).map (fun i => (i.zero, i.size, i.bytes)) = some (some (.int .u8 0), 1, 1) := by kernel_rfl
theorem info3 : (Yba.prog.info? 3).map (fun i => (i.zero, i.size, i.bytes)) = some (some (.int .i64 0), 1, 8) := by kernel_rfl

/-- 'w' is w with new blocks and with writes to 'row' alone': two steps. -/
theorem grown_trans {w1 w2 w3 : World} {r : Option Nat} (h : w1.grownBy w2 r) (k : w2.grownBy w3 r) : w1.grownBy w3 r :=
  ⟨k.os.trans h.os, k.tape.trans h.tape, k.output.trans h.output, Nat.le_trans h.size k.size,
    fun j hj hne => (k.block j (Nat.lt_of_lt_of_le hj h.size) hne).trans (h.block j hj hne)⟩

set_option maxHeartbeats 4000000 in
set_option maxRecDepth 100000 in
theorem appendU16 (B n v : Nat) (hv : v < 65536) (sv : Value) (xs : List Value) (w : World) (hown : w.ownsRow B 5 1 sv n xs) (hBw : B ≤ w.heap.size) (hlim : n + 2 ≤ 140737488355328) :
    Calls Yba.prog 10 #[.agg #[], sv, .int .u16 v] w fun e w' => ∃ v', e = .returned v' ∧ w'.ownsRow B 5 1 v' (n + 2) (xs ++ Lib.byteCells (Lib.leBytes 2 v)) ∧ w.grownBy w' sv.ownBlock := by
  obtain ⟨i0, hi, hz0, hz1, hz2⟩ := info_parts info5
  have e0 : ((v % 256 : Nat) : Int) = (v : Int) % 256 := by omega
  have e1 : ((v / 256 % 256 : Nat) : Int) = (v : Int) / 256 := by omega
  have hb : Lib.byteCells (Lib.leBytes 2 v) = [Value.int .u8 ((v : Int) % 256), Value.int .u8 ((v : Int) / 256)] := by
    simp only [Lib.byteCells, Lib.leBytes, List.map, Lib.toUInt8_mod, e0, e1]
  go_enter Yba.func10, Yba.ntmps10
  go_wp2_with (at_builtin; refine wpList_append_own _ rfl _ _ 23 rfl B 5 i0 (.int .u8 0) 1 1 Yba.underlying23 hi hz0 hz1 hz2 rfl (by decide) _ _ _ rfl ((hown.alloc _).alloc _) _ 2 2 [Value.int .u8 ((v : Int) % 256), Value.int .u8 ((v : Int) / 256)] rfl rfl ?c1 ?c2 ?c3 ?c4 ?c5 ?_)
  case c1 =>
    intro j u hj
    match j, hj with
    | 0, hj => simp at hj; subst hj; simp [Addr.add]
    | 1, hj => simp at hj; subst hj; simp [Addr.add]
  case c2 => intro u hu; simp at hu; rcases hu with rfl | rfl <;> rfl
  case c3 => unfold maxLen; omega
  case c4 => omega
  case c5 => simp; omega
  intro v' w2 hown' hgrow _
  go_wp2
  go_ret
  refine ⟨v', rfl, by rw [hb]; exact hown', ?_⟩
  exact grown_trans (grown_trans (World.grownBy_alloc _ _ _) (World.grownBy_alloc _ _ _)) hgrow

set_option maxHeartbeats 4000000 in
set_option maxRecDepth 100000 in
theorem appendU32 (B n v : Nat) (hv : v < 4294967296) (sv : Value) (xs : List Value) (w : World) (hown : w.ownsRow B 5 1 sv n xs) (hBw : B ≤ w.heap.size) (hlim : n + 4 ≤ 140737488355328) :
    Calls Yba.prog 11 #[.agg #[], sv, .int .u32 v] w fun e w' => ∃ v', e = .returned v' ∧ w'.ownsRow B 5 1 v' (n + 4) (xs ++ Lib.byteCells (Lib.leBytes 4 v)) ∧ w.grownBy w' sv.ownBlock := by
  obtain ⟨i0, hi, hz0, hz1, hz2⟩ := info_parts info5
  have e0 : ((v % 256 : Nat) : Int) = (v : Int) % 256 := by omega
  have e1 : ((v / 256 % 256 : Nat) : Int) = (v : Int) / 256 % 256 := by omega
  have e2 : ((v / 256 / 256 % 256 : Nat) : Int) = (v : Int) / 65536 % 256 := by omega
  have e3 : ((v / 256 / 256 / 256 % 256 : Nat) : Int) = (v : Int) / 16777216 := by omega
  have hb : Lib.byteCells (Lib.leBytes 4 v) = [Value.int .u8 ((v : Int) % 256), Value.int .u8 ((v : Int) / 256 % 256), Value.int .u8 ((v : Int) / 65536 % 256), Value.int .u8 ((v : Int) / 16777216)] := by
    simp only [Lib.byteCells, Lib.leBytes, List.map, Lib.toUInt8_mod, e0, e1, e2, e3]
  go_enter Yba.func11, Yba.ntmps11
  go_wp2_with (at_builtin; refine wpList_append_own _ rfl _ _ 23 rfl B 5 i0 (.int .u8 0) 1 1 Yba.underlying23 hi hz0 hz1 hz2 rfl (by decide) _ _ _ rfl ((hown.alloc _).alloc _) _ 4 4 [Value.int .u8 ((v : Int) % 256), Value.int .u8 ((v : Int) / 256 % 256), Value.int .u8 ((v : Int) / 65536 % 256), Value.int .u8 ((v : Int) / 16777216)] rfl rfl ?c1 ?c2 ?c3 ?c4 ?c5 ?_)
  case c1 =>
    intro j u hj
    match j, hj with
    | 0, hj => simp at hj; subst hj; simp [Addr.add]
    | 1, hj => simp at hj; subst hj; simp [Addr.add]
    | 2, hj => simp at hj; subst hj; simp [Addr.add]
    | 3, hj => simp at hj; subst hj; simp [Addr.add]
  case c2 => intro u hu; simp at hu; rcases hu with rfl | rfl | rfl | rfl <;> rfl
  case c3 => unfold maxLen; omega
  case c4 => omega
  case c5 => simp; omega
  intro v' w2 hown' hgrow _
  go_wp2
  go_ret
  refine ⟨v', rfl, by rw [hb]; exact hown', ?_⟩
  exact grown_trans (grown_trans (World.grownBy_alloc _ _ _) (World.grownBy_alloc _ _ _)) hgrow

set_option maxHeartbeats 4000000 in
set_option maxRecDepth 100000 in
theorem readU16 (g o n c : Nat) (b0 b1 : UInt8) (w : World) (hn : 2 ≤ n)
    (c0 : w.cell? ⟨g, o, none⟩ = some (.int .u8 b0.toNat)) (c1 : w.cell? ⟨g, o + 1, none⟩ = some (.int .u8 b1.toNat)) :
    Calls Yba.prog 25 #[.agg #[], .slice (some ⟨g, o, none⟩) n c] w fun e w' => e = .returned (.int .u16 (Lib.leNat [b0, b1])) ∧ Below w.heap.size w w' := by
  have d0 := cell?_alloc_old (.cells #[] 30) c0
  have e0 : (w.alloc (.cells #[] 30)).drew.cell? ⟨g, o, none⟩ = some (.int .u8 b0.toNat) := d0
  have h0 : b0.toNat < 256 := b0.toNat_lt
  have d1 := cell?_alloc_old (.cells #[] 30) c1
  have e1 : (w.alloc (.cells #[] 30)).drew.cell? ⟨g, o + 1, none⟩ = some (.int .u8 b1.toNat) := d1
  have h1 : b1.toNat < 256 := b1.toNat_lt
  have hv : ((Lib.leNat [b0, b1] : Nat) : Int) = (b0.toNat : Int) + (b1.toNat : Int) * 256 := by
    simp only [Lib.leNat]
    push_cast
    omega
  go_enter Yba.func25, Yba.ntmps25
  go_wp2
  go_region
  go_wp2
  go_ret
  refine ⟨?_, Below.drew ((Below.refl _ w).alloc (Nat.le_refl _) _)⟩
  simp (disch := omega) only [u16_or8]
  rw [hv]
  rfl

set_option maxHeartbeats 4000000 in
set_option maxRecDepth 100000 in
theorem readU32 (g o n c : Nat) (b0 b1 b2 b3 : UInt8) (w : World) (hn : 4 ≤ n)
    (c0 : w.cell? ⟨g, o, none⟩ = some (.int .u8 b0.toNat)) (c1 : w.cell? ⟨g, o + 1, none⟩ = some (.int .u8 b1.toNat)) (c2 : w.cell? ⟨g, o + 2, none⟩ = some (.int .u8 b2.toNat)) (c3 : w.cell? ⟨g, o + 3, none⟩ = some (.int .u8 b3.toNat)) :
    Calls Yba.prog 26 #[.agg #[], .slice (some ⟨g, o, none⟩) n c] w fun e w' => e = .returned (.int .u32 (Lib.leNat [b0, b1, b2, b3])) ∧ Below w.heap.size w w' := by
  have d0 := cell?_alloc_old (.cells #[] 30) c0
  have e0 : (w.alloc (.cells #[] 30)).drew.cell? ⟨g, o, none⟩ = some (.int .u8 b0.toNat) := d0
  have h0 : b0.toNat < 256 := b0.toNat_lt
  have d1 := cell?_alloc_old (.cells #[] 30) c1
  have e1 : (w.alloc (.cells #[] 30)).drew.cell? ⟨g, o + 1, none⟩ = some (.int .u8 b1.toNat) := d1
  have h1 : b1.toNat < 256 := b1.toNat_lt
  have d2 := cell?_alloc_old (.cells #[] 30) c2
  have e2 : (w.alloc (.cells #[] 30)).drew.cell? ⟨g, o + 2, none⟩ = some (.int .u8 b2.toNat) := d2
  have h2 : b2.toNat < 256 := b2.toNat_lt
  have d3 := cell?_alloc_old (.cells #[] 30) c3
  have e3 : (w.alloc (.cells #[] 30)).drew.cell? ⟨g, o + 3, none⟩ = some (.int .u8 b3.toNat) := d3
  have h3 : b3.toNat < 256 := b3.toNat_lt
  have hv : ((Lib.leNat [b0, b1, b2, b3] : Nat) : Int) = (b0.toNat : Int) + (b1.toNat : Int) * 256 + (b2.toNat : Int) * 65536 + (b3.toNat : Int) * 16777216 := by
    simp only [Lib.leNat]
    push_cast
    omega
  go_enter Yba.func26, Yba.ntmps26
  go_wp2
  go_region
  go_wp2
  go_ret
  refine ⟨?_, Below.drew ((Below.refl _ w).alloc (Nat.le_refl _) _)⟩
  simp (disch := omega) only [u32_or8, u32_or16, u32_or24]
  rw [hv]
  rfl

open Go.Proofs.Ybulkcmey.Hint (hdr)

set_option maxHeartbeats 4000000 in
set_option maxRecDepth 100000 in
theorem fileHeader (w : World) :
    Calls Yba.prog 9 #[.slice none 0 0, .string { data := #[65, 83, 72, 76, 72, 73, 78, 84] }] w fun e w' => ∃ v', e = .returned v' ∧ w'.ownsRow w.heap.size 5 1 v' 12 (Lib.byteCells hdr) ∧ w.grownBy w' none := by
  obtain ⟨i0, hi, hz0, hz1, hz2⟩ := info_parts info5
  go_enter Yba.func9, Yba.ntmps9
  go_wp2_with (at_builtin; refine Lib.wpList_append_own_string _ rfl _ _ 23 9 rfl w.heap.size 5 i0 Yba.underlying23 Yba.underlying9 hi hz0 hz1 hz2 _ 0 [] rfl (World.ownsRow_nil _ _ _ _) { data := #[65, 83, 72, 76, 72, 73, 78, 84] } rfl ?c1 ?c2 (Nat.le_refl _) ?_)
  case c1 => decide
  case c2 => decide
  intro v1 w1 hown1 hgrow1 _
  have hz : w.heap.size ≤ w1.heap.size := hgrow1.size
  go_wp2_with fail
  refine (appendU32 w.heap.size _ 5 (by omega) v1 _ w1 hown1 hz (by decide)).mono ?_
  rintro e w2 ⟨v2, rfl, hown2, hgrow2⟩
  go_wp2
  go_ret
  refine ⟨v2, rfl, hown2, ?_⟩
  refine ⟨hgrow2.os.trans hgrow1.os, hgrow2.tape.trans hgrow1.tape, hgrow2.output.trans hgrow1.output, Nat.le_trans hz hgrow2.size, fun k hk _ => ?_⟩
  rw [hgrow2.block k (by omega) (fun e => by have := (hown1.lt k e.symm).1; omega)]
  exact hgrow1.block k hk (by simp [Value.ownBlock])

theorem bytesLen (l : List UInt8) : (Lib.byteCells l).length = l.length := Lib.byteCells_length l

set_option maxHeartbeats 4000000 in
set_option maxRecDepth 100000 in
/-- bytes.Clone of an owned row that is not nil. -/
theorem clone (B n c g : Nat) (L : List UInt8) (w : World) (hown : w.ownsRow B 5 1 (.slice (some ⟨g, 0, none⟩) n c) n (Lib.byteCells L)) (hbig : n ≤ 140737488355328) :
    Calls Yba.prog 12 #[.slice (some ⟨g, 0, none⟩) n c] w fun e w' => ∃ g' c', e = .returned (.slice (some ⟨g', 0, none⟩) n c') ∧ w'.ownsRow w.heap.size 5 1 (.slice (some ⟨g', 0, none⟩) n c') n (Lib.byteCells L) ∧ w.grownBy w' none := by
  obtain ⟨i0, hi, hz0, hz1, hz2⟩ := info_parts info5
  have q22 : ∀ (w : World) (a : Option Addr) (n c n' c' : Nat), (binOp .eql 23 (.slice a n c) (.slice none n' c')).run Yba.prog w = .ok (.bool a.isNone) w := fun w a n c n' c' => Lib.run_eql_slice_nil w _ _ a n c n' c' Yba.underlying23
  go_enter Yba.func12, Yba.ntmps12
  go_wp2_with (at_builtin; refine wpList_append_own _ rfl _ _ 23 rfl w.heap.size 5 i0 (.int .u8 0) 1 1 Yba.underlying23 hi hz0 hz1 hz2 rfl (by decide) _ _ _ rfl (World.ownsRow_made w #[] 0 (Nat.le_refl _) (Nat.zero_le _) rfl) ⟨g, 0, none⟩ n c (Lib.byteCells L) rfl ?qc1 ?qc2 ?qc3 ?qc4 ?qc5 ?qc6 ?_)
  case qc1 => have := hown.1; simpa using this
  case qc2 =>
    intro j u hj
    refine Lib.cell?_alloc_some _ ?_
    exact hown.cells rfl j u hj
  case qc3 => intro u hu; obtain ⟨x, _, rfl⟩ := List.mem_map.1 hu; rfl
  case qc4 => unfold maxLen; omega
  case qc5 => omega
  case qc6 => simp
  intro v' w1 hown1 hgrow hnil
  go_wp2
  go_ret
  have hown2 : w1.ownsRow w.heap.size 5 1 v' n (Lib.byteCells L) := by simpa using hown1
  have hnn : v' ≠ .slice none 0 0 := by first | exact hnil | (intro e; exact absurd (hnil.1 e).1 (by simp))
  rcases hown2.2 with ⟨h, _⟩ | ⟨g', c', cur, rfl, r⟩
  · exact absurd h hnn
  · refine ⟨g', c', rfl, hown2, ?_⟩
    refine ⟨hgrow.os, hgrow.tape, hgrow.output, Nat.le_trans (by simp) hgrow.size, fun k hk _ => ?_⟩
    rw [hgrow.block k (by simp; omega) (by simp [Value.ownBlock]; omega)]
    exact Below.heap_alloc w _ k hk

/-- bytes.Equal of two rows of the same bytes. -/
theorem equalSame (g1 n1 c1 g2 c2 : Nat) (L : List UInt8) (w : World) (hn : L.length = n1)
    (h1 : ∀ j u, (Lib.byteCells L)[j]? = some u → w.cell? ⟨g1, j, none⟩ = some u) (h2 : ∀ j u, (Lib.byteCells L)[j]? = some u → w.cell? ⟨g2, j, none⟩ = some u) :
    Calls Yba.prog 14 #[.slice (some ⟨g1, 0, none⟩) n1 c1, .slice (some ⟨g2, 0, none⟩) n1 c2] w fun e w' => e = .returned (.bool true) ∧ w' = w := by
  have key : ∀ g, (∀ j u, (Lib.byteCells L)[j]? = some u → w.cell? ⟨g, j, none⟩ = some u) → ∀ i, i < n1 → w.cell? ⟨g, 0 + i, none⟩ = some (.int .u8 ((L.map fun b => (b.toNat : Int)).getD i 0)) := by
    intro g h i hi
    rw [Nat.zero_add]
    refine h i _ ?_
    have : i < L.length := by omega
    simp [Lib.byteCells, List.getD, List.getElem?_eq_getElem this]
  have k1 := run_convert_bytes_arg (P := Yba.prog) w 23 5 Yba.underlying23 Yba.underlying5 g1 0 n1 c1 (L.map fun b => (b.toNat : Int)) (by simpa using hn) (key g1 h1) 9 Yba.underlying9
  have k2 := run_convert_bytes_arg (P := Yba.prog) w 23 5 Yba.underlying23 Yba.underlying5 g2 0 n1 c2 (L.map fun b => (b.toNat : Int)) (by simpa using hn) (key g2 h2) 9 Yba.underlying9
  clear h1 h2 key
  go_enter Yba.func14, Yba.ntmps14
  go_wp2
  go_ret
  exact ⟨by simp, rfl⟩

end Go.Proofs.Ybulkcmey.Rec
