/-
  laidOut.add, zzs4412adesc, zzs4412aeq and v2Writer.add at this program.
-/
import Derived.Test.YbulkcmisBytes
import Derived.BigRegion
import Derived.Deep.RegionLaw
import Derived.Deep.RegionWith
import Derived.Deep.CutBlock
import Derived.Deep.DeepCutAuto
namespace Go.Proofs.Ybulkcmis.Bytes
open Go Go.RowKit Go.Proofs.Ybulkcmis.Mem

/-- The summary's start behind an add. -/
def startOf (cnt o st : Int) : Int := if cnt = 0 then o else st

set_option maxHeartbeats 2000000 in
set_option maxRecDepth 100000 in
theorem laidAdd (B hb sb : Nat) (w0 w : World) (c0 c1 c2 : Value) (cnt st ls en o l : Int) (s2 s3 s4 s5 s6 : Value) (v : Value) (n : Nat) (bs : List Value)
    (h : AS B hb sb w0 w #[c0, c1, c2, .int .i64 cnt, .int .i64 st, .int .i64 ls, .int .i64 en] #[.int .i64 o, .int .i64 l, s2, s3, s4, s5, s6] v n bs) (hc0 : 0 ≤ cnt) (hc1 : cnt ≤ 1000000000) :
    Calls Yba.prog 11 #[.pointer (some ⟨hb, 3, none⟩), .pointer (some ⟨sb, 0, none⟩)] w fun e w' => e = .returned (.tuple #[]) ∧
      AS B hb sb w0 w' #[c0, c1, c2, .int .i64 (cnt + 1), .int .i64 (startOf cnt o st), .int .i64 o, .int .i64 (wrap64 (o + l))] #[.int .i64 o, .int .i64 l, s2, s3, s4, s5, s6] v n bs := by
  have a3 : w.cell? ⟨hb, 3, none⟩ = _ := h.cell 3
  have a4 : w.cell? ⟨hb, 4, none⟩ = _ := h.cell 4
  have a5 : w.cell? ⟨hb, 5, none⟩ = _ := h.cell 5
  have a6 : w.cell? ⟨hb, 6, none⟩ = _ := h.cell 6
  have b0 : w.cell? ⟨sb, 0, none⟩ = _ := h.cellS 0
  have b1 : w.cell? ⟨sb, 1, none⟩ = _ := h.cellS 1
  have fz := h.free
  have hne : sb ≠ hb := by
    intro e
    have h1 := h.seg
    rw [e, h.blk] at h1
    simp at h1
  by_cases hz : cnt = 0
  · subst hz
    have HS := ((((h.store 4 (.int .i64 o)).store 3 (.int .i64 1)).store 5 (.int .i64 o)).store 6 (.int .i64 (wrap64 (o + l)))).drew
    have HH : Hid (AS B hb sb w0 _ _ _ v n bs) := HS
    clear HS h
    go_enter Yba.func11, Yba.ntmps11
    go_wp2
    go_region
    all_goals
      go_wp2
      go_end0
      refine ⟨rfl, ?_⟩
      simpa [startOf] using HH.out
  · have hz' : (cnt == 0) = false := by simp [hz]
    have HZ : Hid (¬ cnt = 0) := hz
    have HS := (((h.store 3 (.int .i64 (cnt + 1))).store 5 (.int .i64 o)).store 6 (.int .i64 (wrap64 (o + l)))).drew
    have HH : Hid (AS B hb sb w0 _ _ _ v n bs) := HS
    clear hz HS h
    go_enter Yba.func11, Yba.ntmps11
    go_wp2
    go_region
    all_goals
      go_wp2
      go_end0
      refine ⟨rfl, ?_⟩
      simpa [startOf, HZ.out] using HH.out

set_option maxHeartbeats 2000000 in
set_option maxRecDepth 100000 in
/-- zzs4412aeq of two rows of the same bytes. -/
theorem eqSame (g1 n c1 g2 c2 : Nat) (L : List UInt8) (w : World) (hn : L.length = n) (hbig : n ≤ 140737488355328)
    (h1 : ∀ j u, (Lib.byteCells L)[j]? = some u → w.cell? ⟨g1, j, none⟩ = some u) (h2 : ∀ j u, (Lib.byteCells L)[j]? = some u → w.cell? ⟨g2, j, none⟩ = some u) :
    Calls Yba.prog 8 #[.slice (some ⟨g1, 0, none⟩) n c1, .slice (some ⟨g2, 0, none⟩) n c2] w fun e w' => e = .returned (.bool true) ∧ ∃ m, w' = w.drewN m := by
  have k1 : Hid (∀ i, i < n → ∃ z : Int, w.cell? ⟨g1, i, none⟩ = some (.int .u8 z) ∧ w.cell? ⟨g2, i, none⟩ = some (.int .u8 z)) := by
    intro i hi
    have hi' : i < L.length := by omega
    have e : (Lib.byteCells L)[i]? = some (.int .u8 (L[i].toNat : Int)) := by simp [Lib.byteCells, List.getElem?_eq_getElem hi']
    exact ⟨_, h1 i _ e, h2 i _ e⟩
  clear h1 h2 hn
  go_enter Yba.func8, Yba.ntmps8
  go_wp2
  go_loopg [5] n (fun gk iv wr => ∃ i m : Nat, i + gk = n ∧ iv = .int .i64 (i : Nat) ∧ wr = w.drewN m)
  case atStart => exact ⟨0, 0, by omega, rfl, rfl⟩
  case round =>
    obtain ⟨i, m, hi, rfl, rfl⟩ := hrel
    have HI : Hid (i + gk = n) := hi
    have hi : i ≤ n := by omega
    by_cases hlt : i < n
    · obtain ⟨z, z1, z2⟩ := k1.out i hlt
      have hx : (z != z) = false := by simp
      have hI : (i : Int) < (n : Int) := by omega
      go_wp2
      go_quiet (fail)
      go_wp2
      go_roundg (gk - 1)
      case measure => have := HI.out; omega
      case rel => exact ⟨i + 1, m + nq, by have := HI.out; omega, by go_num, by simp [World.drewN]⟩
    · go_wp2
      go_ret
      exact ⟨rfl, m, rfl⟩

/-- The low 32 bits of an int64. -/
def low32 (l : Int) : Nat := (l % 4294967296).toNat
theorem low32_lt (l : Int) : low32 l < 4294967296 := by unfold low32; omega
theorem low32_mod (l : Int) : l % 4294967296 = (low32 l : Int) := by unfold low32; omega
theorem low32_wrap (l : Int) : IntKind.u32.wrap l = (low32 l : Int) := by rw [← low32_mod]; simp [IntKind.wrap]; rfl

set_option maxHeartbeats 2000000 in
set_option maxRecDepth 100000 in
/-- zzs4412adesc: what a segment's description appends. -/
theorem desc (B n : Nat) (sv : Value) (xs : List Value) (o l : Int) (ha sa : Option Addr) (hm hc sm sc : Nat) (hod sec : List UInt8) (w : World) (hown : w.ownsRow B 5 1 sv n xs) (hBw : B ≤ w.heap.size)
    (hh : BytesAt w ha hm hod) (hs : BytesAt w sa sm sec) (hhc : ha = none → hc = 0) (hsc : sa = none → sc = 0) (hhl : ∀ ad, ha = some ad → 0 < hm → ad.block < B) (hsl : ∀ ad, sa = some ad → 0 < sm → ad.block < B) (hlim : n + 4 + hm + sm ≤ 140737488355328) :
    Calls Yba.prog 6 #[sv, .agg #[.int .i64 o, .int .i64 l, .slice ha hm hc, .slice sa sm sc]] w fun e w' => ∃ v', e = .returned v' ∧
      w'.ownsRow B 5 1 v' (n + 4 + hm + sm) (xs ++ Lib.byteCells (Lib.beBytes 4 (low32 l)) ++ Lib.byteCells hod ++ Lib.byteCells sec) ∧ Below B w w' := by
  obtain ⟨i5, hi5, hz50, hz51, hz52⟩ := info_parts info5
  have hl1 := low32_lt l
  have hw1 := low32_mod l
  have hw2 := low32_wrap l
  generalize low32 l = lv at *
  have hB0 : Below B w (w.alloc (.cells #[.int .i64 o, .int .i64 l, .slice ha hm hc, .slice sa sm sc] 25)) := (Below.refl _ w).alloc hBw _
  have hE : (w.alloc (.cells #[.int .i64 o, .int .i64 l, .slice ha hm hc, .slice sa sm sc] 25)).heap[w.heap.size]? = some (.cells #[.int .i64 o, .int .i64 l, .slice ha hm hc, .slice sa sm sc] 25 (0, 0)) := heap_alloc_new w _
  have hown0 := hown.alloc (.cells #[.int .i64 o, .int .i64 l, .slice ha hm hc, .slice sa sm sc] 25)
  have hz0 : B ≤ (w.alloc (.cells #[.int .i64 o, .int .i64 l, .slice ha hm hc, .slice sa sm sc] 25)).heap.size := by simp; omega
  go_enter Yba.func6, Yba.ntmps6
  go_wp2_with fail
  refine (put32 B n lv hl1 sv xs _ hown0 hz0 (by omega)).mono ?_
  rintro e w1 ⟨v1, rfl, ho1, hg1⟩
  have f1 : Fr B (w.heap.size + 1) _ w1 := Fr.grown hg1 hown0 hz0
  have hE1 := f1.keep _ _ hE (by omega) rfl
  have hB1 := hB0.trans f1.bel
  have hz1 : B ≤ w1.heap.size := Nat.le_trans hz0 hg1.size
  clear hE f1 hg1 hown0 hz0 hB0
  have c2 : w1.cell? ⟨w.heap.size, 2, none⟩ = some (.slice ha hm hc) := by simp [World.cell?, hE1]
  have hh1 : BytesAt w1 ha hm hod := hh.below' (Below.refl B w) hhl hB1
  go_wp2_with (at_builtin; refine wpList_append_src _ rfl (.tmp 10) (.tmp 12) 23 rfl B i5 Yba.underlying23 hi5 hz50 hz51 hz52 _ _ _ rfl ho1 ha hm hc hod rfl hh1 hhc ?a1 hz1 ?_)
  case a1 => omega
  intro v2 w2 ho2 hg2
  have f2 : Fr B (w.heap.size + 1) w1 w2 := Fr.grown hg2 ho1 hz1
  have hE2 := f2.keep _ _ hE1 (by omega) rfl
  have hB2 := hB1.trans f2.bel
  have hz2 : B ≤ w2.heap.size := Nat.le_trans hz1 hg2.size
  clear hE1 f2 hg2 ho1 hz1 hB1 c2 hh1
  have c3 : w2.cell? ⟨w.heap.size, 3, none⟩ = some (.slice sa sm sc) := by simp [World.cell?, hE2]
  have hs2 : BytesAt w2 sa sm sec := hs.below' (Below.refl B w) hsl hB2
  go_wp2_with (at_builtin; refine wpList_append_src _ rfl (.tmp 14) (.tmp 16) 23 rfl B i5 Yba.underlying23 hi5 hz50 hz51 hz52 _ _ _ rfl ho2 sa sm sc sec rfl hs2 hsc ?a2 hz2 ?_)
  case a2 => omega
  intro v3 w3 ho3 hg3
  have f3 : Fr B (w.heap.size + 1) w2 w3 := Fr.grown hg3 ho2 hz2
  have hB3 := hB2.trans f3.bel
  clear hE2 f3 hg3 ho2 hB2 c3 hs2
  go_wp2
  go_ret
  exact ⟨v3, rfl, by simpa using ho3, hB3⟩
end Go.Proofs.Ybulkcmis.Bytes
