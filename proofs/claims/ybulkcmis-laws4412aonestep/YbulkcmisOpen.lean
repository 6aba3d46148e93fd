/-
  What the arguments' readings tell.
-/
import Derived.Test.YbulkcmisLawSeq
import Derived.ProofKit
import Derived.OpenShut
import Derived.ChangeOld
import Derived.Deep.Slices
import Derived.Deep.Strs
namespace Go.Proofs.Ybulkcmis.Bytes
open Go Go.RowKit Go.Proofs.Ybulkcmis.Mem Go.ChangeShapes Go.WideShapes

theorem cells25 : Yba.prog.cellsOf 25 = 4 := by kernel_rfl
theorem cells5 : Yba.prog.cellsOf 5 = 1 := by kernel_rfl
theorem cells2 : Yba.prog.cellsOf 2 = 1 := by kernel_rfl
theorem cells23 : Yba.prog.cellsOf 23 = 1 := by kernel_rfl

section
variable {H : Type} {enc : TypeId × Value → H} {W : World} {held : Bool}

/-- A slice of bytes that came in. -/
theorem openBytes {n : Nat} {cs : List Value} {y : DataW H × List MemPlace} (h : DataW.trod enc Yba.prog W 0 (fun _ => true) held n 23 cs = some y) :
    ∃ ao m c bs, cs = [.slice ao m c] ∧ BytesAt W ao m bs ∧ (ao = none → c = 0) ∧ (∀ ad, ao = some ad → 0 < m → ad.block < W.heap.size) ∧ m ≤ maxLen := by
  rcases open_ints Yba.underlying23 Yba.underlying5 cells5 h with ⟨hcs, _⟩ | ⟨a, len, cap, zs, hcs, _, hl, hm, hz, _, hcell, hwz⟩
  · exact ⟨none, 0, 0, [], hcs, ⟨rfl, fun _ => rfl, fun ad e => (by cases e)⟩, fun _ => rfl, fun ad e => (by cases e), Nat.zero_le _⟩
  · have hzl : zs.length = cap := by simpa using hz
    refine ⟨some a, len, cap, (zs.take len).map (fun z => z.toNat.toUInt8), hcs, ⟨(by simp; omega), fun e => (by cases e), ?_⟩, fun e => (by cases e), ?_, (by omega)⟩
    · intro ad e j u hj
      cases e
      have hjl : j < len := by
        have := (List.getElem?_eq_some_iff.1 hj).1
        simp [Lib.byteCells] at this
        omega
      have hc := hcell j (by omega)
      rw [hc]
      have hb := bounds_u8 (hwz (zs.getD j 0) (by rw [List.getD_eq_getElem?_getD, List.getElem?_eq_getElem (by omega)]; exact List.getElem_mem _))
      have t0 : (((zs.getD j 0).toNat.toUInt8).toNat : Int) = zs.getD j 0 := by
        rw [show ((zs.getD j 0).toNat.toUInt8).toNat = (zs.getD j 0).toNat % 256 from by simp [Nat.toUInt8, UInt8.toNat_ofNat']]
        omega
      have hu : (Lib.byteCells ((zs.take len).map (fun z => z.toNat.toUInt8)))[j]? = some (.int .u8 (((zs.getD j 0).toNat.toUInt8).toNat : Int)) := by
        have hjz : j < zs.length := by omega
        simp only [Lib.byteCells, List.map_map, List.getElem?_map, List.getElem?_take, hjl, if_true, List.getElem?_eq_getElem hjz, Option.map_some, Function.comp, List.getD_eq_getElem?_getD, Option.getD_some]
      rw [hu, t0] at hj
      exact hj
    · intro ad e hpos
      cases e
      have := World.block_lt_of_cell? W _ (hcell 0 (by omega))
      unfold Addr.add at this
      simpa using this

set_option maxRecDepth 100000 in
/-- A segment, out of its four cells. -/
theorem openSeg {n : Nat} {cs : List Value} {y : DataW H × List MemPlace} (h : DataW.trod enc Yba.prog W 0 (fun _ => true) held n 25 cs = some y) :
    ∃ s : Seg, cs = [.int .i64 s.o, .int .i64 s.l, .slice s.ha s.hm s.hc, .slice s.sa s.sm s.sc] ∧ BytesAt W s.ha s.hm s.hod ∧ BytesAt W s.sa s.sm s.sec ∧ (s.ha = none → s.hc = 0) ∧ (s.sa = none → s.sc = 0) ∧
      (∀ ad, s.ha = some ad → 0 < s.hm → ad.block < W.heap.size) ∧ (∀ ad, s.sa = some ad → 0 < s.sm → ad.block < W.heap.size) ∧ s.hm ≤ maxLen ∧ s.sm ≤ maxLen := by
  obtain ⟨xs, k, _, _, hlen, hxl, hf⟩ := DataW.trod_struct Yba.underlying25 h
  rw [cells25] at hlen
  match xs, hxl, cs, hlen with
  | [y0, y1, y2, y3], _, [v0, v1, v2, v3], _ =>
    have g0 : DataW.trod enc Yba.prog W 0 (fun _ => true) held k 2 [v0] = some y0 := by have := hf 0 _ rfl; simpa [cells2] using this
    have g1 : DataW.trod enc Yba.prog W 0 (fun _ => true) held k 2 [v1] = some y1 := by have := hf 1 _ rfl; simpa [cells2] using this
    have g2 : DataW.trod enc Yba.prog W 0 (fun _ => true) held k 23 [v2] = some y2 := by have := hf 2 _ rfl; simpa [cells23] using this
    have g3 : DataW.trod enc Yba.prog W 0 (fun _ => true) held k 23 [v3] = some y3 := by have := hf 3 _ rfl; simpa [cells23] using this
    obtain ⟨o, e0, _, _⟩ := DataW.trod_int Yba.underlying2 g0
    obtain ⟨l, e1, _, _⟩ := DataW.trod_int Yba.underlying2 g1
    obtain ⟨ha, hm, hc, hod, e2, b2, n2, l2, m2⟩ := openBytes g2
    obtain ⟨sa, sm, sc, sec, e3, b3, n3, l3, m3⟩ := openBytes g3
    simp at e0 e1 e2 e3
    subst e0 e1 e2 e3
    exact ⟨⟨o, l, ha, hm, hc, hod, sa, sm, sc, sec⟩, rfl, b2, b3, n2, n3, l2, l3, m2, m3⟩

set_option maxRecDepth 100000 in
/-- A slice of segments that came in. -/
theorem openSegs {a0 : Option Addr} {len cap : Nat} {d0 : DataW H} {p0 : List MemPlace} (h0 : DataW.Trod enc Yba.prog W 0 (fun _ => true) held 22 (.slice a0 len cap) d0 p0) :
    ∃ (b off : Nat) (ss : List Seg), ss.length = len ∧ (0 < ss.length → a0 = some ⟨b, off, none⟩) ∧ (∀ i (h : i < ss.length), LiesAt W b off ss[i] i) ∧ (0 < ss.length → b < W.heap.size) ∧ len ≤ maxLen := by
  obtain ⟨fuel, hf⟩ := h0
  rcases Go.Deep.open_slice Yba.underlying22 hf with ⟨hcs, _⟩ | ⟨a, len', cap', m, n, D, Pl, hcs, _, hl, hm, hmm, _, hx⟩
  · simp [Value.cells] at hcs
    obtain ⟨rfl, rfl, rfl⟩ := hcs
    exact ⟨0, 0, [], rfl, by simp, by intro i h; simp at h, by simp, Nat.zero_le _⟩
  · simp [Value.cells] at hcs
    obtain ⟨rfl, rfl, rfl⟩ := hcs
    simp at hmm
    subst hmm
    rw [cells25] at hx
    by_cases hpos : 0 < len
    · have each : ∀ i, i < len → ∃ s : Seg, (W.cell? (a.add (i * 4)) = some (.int .i64 s.o) ∧ W.cell? (a.add (i * 4 + 1)) = some (.int .i64 s.l) ∧ W.cell? (a.add (i * 4 + 2)) = some (.slice s.ha s.hm s.hc) ∧ W.cell? (a.add (i * 4 + 3)) = some (.slice s.sa s.sm s.sc)) ∧
          BytesAt W s.ha s.hm s.hod ∧ BytesAt W s.sa s.sm s.sec ∧ (s.ha = none → s.hc = 0) ∧ (s.sa = none → s.sc = 0) ∧ (∀ ad, s.ha = some ad → 0 < s.hm → ad.block < W.heap.size) ∧ (∀ ad, s.sa = some ad → 0 < s.sm → ad.block < W.heap.size) ∧ s.hm ≤ maxLen ∧ s.sm ≤ maxLen := by
        intro i hi
        obtain ⟨cs', h1, h2⟩ := hx i (by omega)
        obtain ⟨_, hlen, hcell⟩ := World.cells?_some h1
        obtain ⟨s, rfl, r⟩ := openSeg h2
        have q0 := hcell 0 (by omega)
        have q1 := hcell 1 (by omega)
        have q2 := hcell 2 (by omega)
        have q3 := hcell 3 (by omega)
        rw [Go.Deep.add_add] at q0 q1 q2 q3
        exact ⟨s, ⟨by simpa using q0, by simpa using q1, by simpa using q2, by simpa using q3⟩, r⟩
      obtain ⟨s0, hs0, _⟩ := each 0 hpos
      obtain ⟨b, off, spot⟩ := a
      have hspot : spot = none := by simpa [Addr.add] using World.cell?_spot hs0.1
      subst hspot
      have hadd : ∀ k, (⟨b, off, none⟩ : Addr).add k = ⟨b, off + k, none⟩ := fun k => by unfold Addr.add; split <;> simp_all
      have each' : ∀ i, i < len → ∃ s : Seg, LiesAt W b off s i := by
        intro i hi
        obtain ⟨s, ⟨q0, q1, q2, q3⟩, r1, r2, r3, r4, r5, r6, r7, r8⟩ := each i hi
        rw [hadd] at q0 q1 q2 q3
        unfold maxLen at r7 r8
        exact ⟨s, q0, by rw [Nat.add_assoc]; exact q1, by rw [Nat.add_assoc]; exact q2, by rw [Nat.add_assoc]; exact q3, r1, r2, r3, r4, r5, r6, by omega, by omega⟩
      refine ⟨b, off, List.ofFn (fun i : Fin len => Classical.choose (each' i.1 i.2)), by simp, fun _ => rfl, ?_, ?_, by omega⟩
      · intro i h
        have hi : i < len := by simpa using h
        simp only [List.getElem_ofFn]
        exact Classical.choose_spec (each' i hi)
      · intro _
        have := World.block_lt_of_cell? W _ hs0.1
        rw [hadd] at this
        exact this
    · have : len = 0 := by omega
      subst this
      exact ⟨0, 0, [], rfl, by simp, by intro i h; simp at h, by simp, Nat.zero_le _⟩
end
end Go.Proofs.Ybulkcmis.Bytes
