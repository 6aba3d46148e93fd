/-
  zzs4405bkeys: a copy of the raw keys, sorted, compacted, cut at 31.
-/
import Derived.Test.YbulkcmeyBNode
import Derived.Laws.CopyOwn
import Derived.Laws.OwnMore
import Derived.Sort.OwnSorted
import Derived.Lib.RowBridge
namespace Go.Proofs.Ybulkcmey.B
open Go Go.RowKit Go.Sort

/-- A slice of strings that came in: nil, or an address behind which the strings lie. -/
def StrsAt (w : World) (ao : Option Addr) (m : Nat) (ss : List (List UInt8)) : Prop :=
  ss.length = m ∧ (ao = none → m = 0) ∧ ∀ ad, ao = some ad → ∀ j u, (ss.map encStr)[j]? = some u → w.cell? (ad.add j) = some u

theorem StrsAt.below {B : Nat} {w w' : World} {ao : Option Addr} {m : Nat} {ss : List (List UInt8)} (h : StrsAt w ao m ss) (hlt : ∀ ad, ao = some ad → 0 < m → ad.block < B) (hb : Below B w w') : StrsAt w' ao m ss :=
  ⟨h.1, h.2.1, fun ad e j u hj => by
    have h1 := h.2.2 ad e j u hj
    have hm : 0 < m := by
      have := (List.getElem?_eq_some_iff.1 hj).1
      rw [List.length_map, h.1] at this
      omega
    have hl : (ad.add j).block < B := by have := hlt ad e hm; unfold Addr.add; split <;> simpa using this
    exact (hb.cell hl).trans h1⟩

theorem one_strs (ss : List (List UInt8)) : ∀ u ∈ ss.map encStr, u.oneCell' = true := by
  intro u hu
  obtain ⟨x, _, rfl⟩ := List.mem_map.1 hu
  rfl

theorem wpList_copy_strs {P : Program} {w : World} {ops : Array Oper} {rest : List Oper} {o : Oper} {a : Act} {Q : Exit → Act → World → Prop} (hgd : o.guard = none) (d s : Operand) (t : TypeId)
    (ho : o.op = .call { callee := .builtin .copy, args := #[d, s], argTypes := #[t, t] }) (hu : P.underlying t = some (.slice 9)) (hsz : (P.info? 9).map (·.size) = some 1)
    (B g n : Nat) (xs : List Value) (ao : Option Addr) (c : Nat) (bs : List (List UInt8)) (hd : a.eval d = .slice (some ⟨g, 0, none⟩) n n) (hs : a.eval s = .slice ao n c)
    (hown : w.ownsRow B 9 1 (.slice (some ⟨g, 0, none⟩) n n) n xs) (hsrc : StrsAt w ao n bs)
    (h : ∀ w', w'.ownsRow B 9 1 (.slice (some ⟨g, 0, none⟩) n n) n (bs.map encStr) → w.grownBy w' (some g) → wpList P ops Q rest (a.put o.dst (goInt n)) w') : wpList P ops Q (o :: rest) a w := by
  have hxl := hown.1
  by_cases h0 : n = 0
  · subst h0
    have hbs : bs = [] := List.eq_nil_of_length_eq_zero hsrc.1
    have hxs : xs = [] := List.eq_nil_of_length_eq_zero (by omega)
    subst hbs hxs
    exact wpList_copy_nothing hgd d s t t ho 9 hu hsz _ _ 0 0 0 c hd hs rfl (h w hown ⟨rfl, rfl, rfl, Nat.le_refl _, fun _ _ _ => rfl⟩)
  · obtain ⟨ad, rfl⟩ : ∃ ad, ao = some ad := by
      cases ao with
      | none => exact absurd (hsrc.2.1 rfl) h0
      | some ad => exact ⟨ad, rfl⟩
    rcases hown.2 with ⟨hv, _⟩ | ⟨g', c', cur, hv, hbg, hgg, hc, hmx, hcs, htk⟩
    · simp at hv
    · simp at hv
      obtain ⟨rfl, rfl⟩ := hv
      have hlen : (bs.map encStr).length = n := by rw [List.length_map, hsrc.1]
      refine wpList_copy_own hgd d s t t ho 9 hu hsz g 0 n n ad n c hd hs cur 9 hgg (bs.map encStr) (by rw [hlen]; simp) (hsrc.2.2 ad rfl) (by omega) (one_strs bs) ?_
      rw [hlen]
      refine h _ ⟨by rw [hlen]; omega, .inr ⟨g, n, _, rfl, hbg, setRow_heap w g cur _ 9 (0, 0) hgg, Nat.le_refl _, hmx, ?_, ?_⟩⟩ ⟨rfl, rfl, rfl, by simp [World.setRow], fun k hk hne => setRow_other w g k _ (by intro e; subst e; simp at hne)⟩
      · simp [hsrc.1]; omega
      · simp [hsrc.1]

theorem info9 : (Yba.prog.info? 9).map (fun i => (i.zero, i.size, i.bytes)) = some (some (.string ⟨#[]⟩), 1, 16) := by kernel_rfl
theorem info9s : (Yba.prog.info? 9).map (·.size) = some 1 := by kernel_rfl

theorem grow_none (w : World) : grow w #[] = w := by simp [grow]

set_option maxHeartbeats 4000000 in
set_option maxRecDepth 100000 in
theorem keys (ao : Option Addr) (c : Nat) (ss : List (List UInt8)) (w : World) (hs : StrsAt w ao ss.length ss) (hl : ∀ ad, ao = some ad → 0 < ss.length → ad.block < w.heap.size) (hn : ss.length ≤ 1024) :
    Calls Yba.prog 19 #[.slice ao ss.length c] w fun e w' => ∃ g cap, e = .returned (.slice (some ⟨g, 0, none⟩) (keysOf ss).length cap) ∧ g < w'.heap.size ∧ Below w.heap.size w w' ∧
      ∀ i (h : i < (keysOf ss).length), w'.cell? ⟨g, i, none⟩ = some (encStr (keysOf ss)[i]) := by
  obtain ⟨i9, hi9, hz90, hz91, hz92⟩ := info_parts info9
  have HS : Hid (StrsAt w ao ss.length ss) := hs
  clear hs
  go_enter Yba.func19, Yba.ntmps19
  go_wp2_with (at_make; refine wpList_make_full _ rfl _ _ 51 rfl w.heap.size 9 i9 (.string ⟨#[]⟩) 1 Yba.underlying51 hi9 hz90 hz91 .i64 .i64 _ _ ss.length rfl rfl rfl rfl ?m1 ?m2 (Nat.le_refl _) ?_)
  case m1 => rw [hz92]; omega
  case m2 => unfold maxLen; omega
  intro w1 ho1 hg1
  have b1 : Below w.heap.size w w1 := (Below.refl _ w).grown hg1 (Nat.le_refl _) (by simp)
  have hs1 : StrsAt w1 ao ss.length ss := HS.out.below hl b1
  clear hg1
  go_upto_region 2 with fail
  go_wp2_with (refine wpList_copy_strs rfl (.tmp 7) (.tmp 8) 51 rfl Yba.underlying51 info9s w.heap.size w.heap.size ss.length _ ao c ss rfl rfl ho1 hs1 ?_)
  intro w2 ho2 hg2
  have b2 : Below w.heap.size w w2 := b1.grown hg2 b1.size (fun k hk => by simp at hk; omega)
  clear ho1 hs1 hg2 b1
  obtain ⟨cur, hb2, hcs2, htk2⟩ : ∃ cur, w2.heap[w.heap.size]? = some (.cells cur 9 (0, 0)) ∧ cur.size = ss.length ∧ cur.toList.take ss.length = ss.map encStr := by
    rcases ho2.2 with ⟨hv, _⟩ | ⟨g', c', cur, hv, hbg, hgg, hc, hmx, hcs, htk⟩
    · simp at hv
    · simp at hv
      obtain ⟨rfl, rfl⟩ := hv
      exact ⟨cur, hgg, by omega, by simpa using htk⟩
  have hlt2 : w.heap.size < w2.heap.size := (Array.getElem?_eq_some_iff.1 hb2).1
  clear ho2
  go_wp2_with fail
  refine (Yba.slices_Sort_string w.heap.size 0 ss.length ss w2 (holds_of_block hb2 htk2) hlt2 (by omega)).mono ?_
  rintro e w3 ⟨rfl, m, os, hw3⟩
  obtain ⟨zs, hzs⟩ : ∃ zs, (ss.mergeSort fun x y => decide (x ≤ y)) = zs := ⟨_, rfl⟩
  have hzl : zs.length = ss.length := by rw [← hzs, List.length_mergeSort]
  rw [hzs] at hw3
  obtain ⟨cur3, hb3, hcs3, htk3⟩ : ∃ cur, w3.heap[w.heap.size]? = some (.cells cur 9 (0, 0)) ∧ cur.size = ss.length ∧ cur.toList.take zs.length = zs.map encStr := by
    refine ⟨putCells encStr 0 zs.toArray cur, by rw [hw3]; exact heap_sorted _ hb2, by simp [putCells, hcs2], take_putCells cur zs (by omega)⟩
  have b3 : Below w.heap.size w w3 := b2.grown (by rw [hw3]; exact grownBy_sorted _) b2.size (fun k hk => by simp at hk; omega)
  have hC := Yba.slices_Compact_string w.heap.size 0 ss.length zs w3 (holds_of_block hb3 htk3) (by omega) (by omega)
  rw [hzl] at hC
  have hlt3 : w.heap.size < w3.heap.size := (Array.getElem?_eq_some_iff.1 hb3).1
  have HC : Hid (Calls Yba.prog 31 _ w3 _) := hC
  have HZ : Hid (_ = zs) := hzs
  clear hw3 hb2 hcs2 htk2 b2 hlt2 hC hzs
  go_wp2_with fail
  refine HC.out.mono ?_
  rintro e w4 ⟨rfl, q, hw4⟩
  obtain ⟨ts, hts⟩ : ∃ ts, Lib.compact zs = ts := ⟨_, rfl⟩
  rw [hts] at hw4 ⊢
  have htl : ts.length ≤ ss.length := by rw [← hts, ← hzl]; exact Lib.compact_length_le zs
  have b4 : Below w.heap.size w w4 := b3.grown (by rw [hw4, ← grow_none (putRow _ _ _ _ _)]; exact grownBy_sorted _) b3.size (fun k hk => by simp at hk; omega)
  have hcell : Hid (∀ i (h : i < ts.length), w4.cell? ⟨w.heap.size, i, none⟩ = some (encStr ts[i])) := by
    intro i hi
    have h1 := heap_sorted (w := w3) (g := w.heap.size) (n := q) (os := #[]) (ts ++ List.replicate (ss.length - ts.length) []).toArray hb3
    rw [grow_none, ← hw4] at h1
    have h2 := take_putCells cur3 (ts ++ List.replicate (ss.length - ts.length) []) (by simp; omega)
    have h3 := holds_of_block h1 h2 i (by simp; omega)
    have h4 := h3.1
    rw [Nat.zero_add] at h4
    rw [h4]
    have e : (ts ++ List.replicate (ss.length - ts.length) []).toArray[i]! = ts[i] := by
      rw [getElem!_pos _ i (by simp; omega)]
      simp [List.getElem_append_left hi]
    rw [e]
  have hlt4 : w.heap.size < w4.heap.size := by have := congrArg (fun z => z.heap.size) hw4; simp [putRow, mapBlock, Sort.ahead] at this; omega
  have HK : Hid (keysOf ss = ts.take 31) := by show keysOf ss = _; rw [keysOf, HZ.out, hts]
  clear HC hw4 hts hb3 htk3 hcs3 b3
  by_cases h31 : (31 : Int) < (ts.length : Int)
  · have hcap : (31 : Int) ≤ (ss.length : Int) := by omega
    go_wp2
    go_ret
    have hkl : (keysOf ss).length = 31 := by rw [HK.out, List.length_take]; omega
    refine ⟨w.heap.size, ss.length, by rw [hkl]; rfl, hlt4, b4, ?_⟩
    intro i hi
    have e : (keysOf ss)[i] = ts[i]'(by omega) := by simp [HK.out]
    rw [e]
    exact hcell.out i (by omega)
  · go_wp2
    go_ret
    have hk : keysOf ss = ts := by rw [HK.out]; exact List.take_of_length_le (by omega)
    refine ⟨w.heap.size, ss.length, by rw [hk]; rfl, hlt4, b4, ?_⟩
    intro i hi
    have e : (keysOf ss)[i] = ts[i]'(by rw [← hk]; exact hi) := by simp [hk]
    rw [e]
    exact hcell.out i _
end Go.Proofs.Ybulkcmey.B
