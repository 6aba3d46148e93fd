/-
  newClearing's names: the debts sorted, the names sorted and compacted.
-/
import Derived.Test.YbulkcmrwLaw
import Derived.Sort.OwnSorted
import Derived.Lib.RowBridge
import Derived.Shelf.Slices.In.SortNone
namespace Go.Proofs.Ybulkcmrw.W
open Go Go.RowKit Go.Proofs.Ybulkcmrw.Mem Go.Proofs.Ybulkcmrw.G

theorem cellsD_cons (x : Debt) (l : List Debt) : cellsD (x :: l) = encD x ++ cellsD l := by simp [cellsD]
theorem cellsD_at : ∀ (l : List Debt) (i c : Nat) (hi : i < l.length), c < 3 → (cellsD l)[i * 3 + c]? = (encD l[i])[c]? := by
  intro l
  induction l with
  | nil => intro i c hi; simp at hi
  | cons x l ih =>
    intro i c hi hc
    rw [cellsD_cons]
    cases i with
    | zero => rw [List.getElem?_append_left (by simp [encD]; omega)]; simp
    | succ i =>
      rw [List.getElem?_append_right (by simp [encD]; omega)]
      have e : (i + 1) * 3 + c - (encD x).length = i * 3 + c := by simp [encD]; omega
      rw [e, ih i c (by simpa using hi) hc]
      simp

/-- Debt j, as it lies. -/
structure LiesD (w : World) (g : Nat) (x : Debt) (j : Nat) : Prop where
  c0 : w.cell? ⟨g, j * 3, none⟩ = some (.string (ByteArray.mk x.1.toArray))
  c1 : w.cell? ⟨g, j * 3 + 1, none⟩ = some (.string (ByteArray.mk x.2.1.toArray))
  c2 : w.cell? ⟨g, j * 3 + 2, none⟩ = some (.int .i64 x.2.2)

open Go.Sort in
theorem holdsD {w : World} {B g1 c1 : Nat} {l : List Debt} (ho : w.ownsRow B 29 3 (.slice (some ⟨g1, 0, none⟩) l.length c1) l.length (cellsD l)) : HoldsK encD 3 w g1 0 l.toArray := by
  have hfz : ∀ j, w.frozen? ⟨g1, j, none⟩ = false := ho.frozenAt
  unfold HoldsK Holds
  intro t ht
  rw [size_flatK] at ht
  have ht' : t < l.length * 3 := by simpa using ht
  rw [get_flatK _ _ _ _ ht, Nat.zero_add]
  refine ⟨?_, hfz t⟩
  have h1 := cellsD_at l (t / 3) (t % 3) (by omega) (by omega)
  rw [show t / 3 * 3 + t % 3 = t from by omega] at h1
  have hlt : t % 3 < (encD l[t / 3]).length := by simp [encD]; omega
  rw [List.getElem?_eq_getElem hlt] at h1
  have h2 := ho.cells rfl t _ h1
  have hadd : (⟨g1, 0, none⟩ : Addr).add t = ⟨g1, t, none⟩ := by unfold Addr.add; split <;> simp_all
  rw [hadd] at h2
  rw [h2]
  have e1 : l.toArray[t / 3]! = l[t / 3] := by simp [show t / 3 < l.length from by omega]
  rw [e1, getElem!_pos (encD l[t / 3]) (t % 3) hlt]
  rfl

open Go.Sort in
theorem grownBy_sortK {w : World} {g n : Nat} {os : Array Obj} (d : Array Debt) : w.grownBy (sortWorldK encD 3 w g 0 n d os) (some g) := by
  unfold sortWorldK putRowK
  refine ⟨rfl, rfl, rfl, by simp, fun k hk hne => ?_⟩
  rw [heap_grow_old _ _ (by simpa using hk)]
  have : g ≠ k := fun e => hne (by rw [e])
  simp [putRow, mapBlock, Sort.ahead, Array.getElem?_modify, this]

open Go.Sort in
theorem heap_sortK {w : World} {g n : Nat} {os : Array Obj} {cur : Array Value} {e : TypeId} {fr : Nat × Nat} (d : Array Debt) (hb : w.heap[g]? = some (.cells cur e fr)) :
    ∃ cur', (sortWorldK encD 3 w g 0 n d os).heap[g]? = some (.cells cur' e fr) := by
  have hg : g < w.heap.size := (Array.getElem?_eq_some_iff.1 hb).1
  unfold sortWorldK putRowK
  rw [heap_grow_old _ _ (by simpa using hg)]
  simp [putRow, mapBlock, Sort.ahead, Array.getElem?_modify, hb, onCells]

open Go.Sort in
theorem sortD (B g1 c1 : Nat) (l : List Debt) (w : World) (ho : w.ownsRow B 29 3 (.slice (some ⟨g1, 0, none⟩) l.length c1) l.length (cellsD l)) (hn : l.length ≤ 1024) :
    Calls Yba.prog 14 #[.slice (some ⟨g1, 0, none⟩) l.length c1, .func (.func 15) #[] #[]] w fun e w' => e = .returned (.tuple #[]) ∧ w.grownBy w' (some g1) ∧ (∃ cur, w'.heap[g1]? = some (.cells cur 29 (0, 0))) ∧
      ∃ l' : List Debt, l'.length = l.length ∧ ∀ j (h : j < l'.length), LiesD w' g1 l'[j] j := by
  have hH := holdsD ho
  obtain ⟨cur, hcur⟩ := own_type ho (g := g1) rfl
  have hlt : g1 < w.heap.size := (Array.getElem?_eq_some_iff.1 hcur).1
  have h := sortDebts g1 c1 l.toArray w hH hlt (by simp; omega)
  have e : l.toArray.size = l.length := by simp
  rw [e] at h
  refine h.mono ?_
  rintro e w' ⟨rfl, d', n, os, hp, rfl⟩
  have hsz : d'.size = l.toArray.size := hp.1
  refine ⟨rfl, grownBy_sortK d', heap_sortK d' hcur, d'.toList, by simpa using hsz, fun j hj => ?_⟩
  have hK := holdsK_sortWorldK encD 3 w g1 0 n l.toArray d' os hlt hH hsz
  have hj' : j < d'.size := by simpa using hj
  have e1 : d'[j]! = d'.toList[j] := by rw [getElem!_pos d' j hj']; simp
  have k0 := (hK.cell hj' (c := 0) (by omega)).1
  have k1 := (hK.cell hj' (c := 1) (by omega)).1
  have k2 := (hK.cell hj' (c := 2) (by omega)).1
  rw [e1] at k0 k1 k2
  simp only [Nat.zero_add, Nat.add_zero] at k0 k1 k2
  exact ⟨k0, k1, k2⟩

theorem sortNone (p : Option Addr) (cap : Nat) (w : World) : Calls Yba.prog 18 #[.slice p 0 cap] w fun e w' => e = .returned (.tuple #[]) ∧ w' = w := Any.slices_Sort_string_none Yba.lays190 p cap w
theorem compNone (p : Option Addr) (cap : Nat) (w : World) : Calls Yba.prog 19 #[.slice p 0 cap] w fun e w' => e = .returned (.slice p 0 cap) ∧ w' = w := Any.slices_Compact_string_empty Yba.lays194 p cap w

theorem grown_refl (w : World) (r : Option Nat) : w.grownBy w r := ⟨rfl, rfl, rfl, Nat.le_refl _, fun _ _ _ => rfl⟩

/-- A row of strings. -/
def ks2 (ns : List (List UInt8)) : List Value := ns.map encStr

open Go.Sort in
/-- The names sorted: the row is the same. -/
theorem sortN (B : Nat) (nv : Value) (ns : List (List UInt8)) (w : World) (ho : w.ownsRow B 9 1 nv ns.length (ks2 ns)) (hn : ns.length ≤ 100000) :
    Calls Yba.prog 18 #[nv] w fun e w' => e = .returned (.tuple #[]) ∧ w.grownBy w' nv.ownBlock ∧ w'.ownsRow B 9 1 nv ns.length (ks2 (ns.mergeSort fun x y => decide (x ≤ y))) := by
  rcases ho.2 with ⟨rfl, h0⟩ | ⟨g, cap, cur, rfl, hbg, hgg, hc, hmx, hcs, htk⟩
  · refine (sortNone none 0 w).mono ?_
    rintro e w' ⟨rfl, rfl⟩
    have : ns = [] := List.eq_nil_of_length_eq_zero h0
    subst this
    exact ⟨rfl, grown_refl _ _, by simpa [ks2] using ho⟩
  · have htk' : cur.toList.take ns.length = ns.map encStr := by simpa [ks2] using htk
    refine (Yba.slices_Sort_string g 0 cap ns w (holds_of_block hgg htk') (Array.getElem?_eq_some_iff.1 hgg).1 (by omega)).mono ?_
    rintro e w' ⟨rfl, n, os, rfl⟩
    exact ⟨rfl, grownBy_sorted _, ownsRow_sorted (List.length_mergeSort _) hbg hgg hc hmx (by omega)⟩

open Go.Sort in
/-- The names compacted. -/
theorem compN (B : Nat) (nv : Value) (ns : List (List UInt8)) (w : World) (ho : w.ownsRow B 9 1 nv ns.length (ks2 ns)) (hn : ns.length ≤ 100000) :
    Calls Yba.prog 19 #[nv] w fun e w' => ∃ v', e = .returned v' ∧ w.grownBy w' nv.ownBlock ∧ w'.ownsRow B 9 1 v' (Lib.compact ns).length (ks2 (Lib.compact ns)) := by
  rcases ho.2 with ⟨rfl, h0⟩ | ⟨g, cap, cur, rfl, hbg, hgg, hc, hmx, hcs, htk⟩
  · refine (compNone none 0 w).mono ?_
    rintro e w' ⟨rfl, rfl⟩
    have : ns = [] := List.eq_nil_of_length_eq_zero h0
    subst this
    exact ⟨_, rfl, grown_refl _ _, by simpa [ks2, Lib.compact, Lib.compactUpTo] using ho⟩
  · have htk' : cur.toList.take ns.length = ns.map encStr := by simpa [ks2] using htk
    refine (Yba.slices_Compact_string g 0 cap ns w (holds_of_block hgg htk') (by omega) hc).mono ?_
    rintro e w' ⟨rfl, q, hw'⟩
    have hw2 : w' = grow (putRow encStr (Sort.ahead w q) g 0 (Lib.compact ns ++ List.replicate (ns.length - (Lib.compact ns).length) []).toArray) #[] := by rw [hw']; simp
    have hle := Lib.compact_length_le ns
    have hb := heap_sorted (w := w) (g := g) (n := q) (os := #[]) (Lib.compact ns ++ List.replicate (ns.length - (Lib.compact ns).length) []).toArray hgg
    have ht := take_putCells cur (Lib.compact ns ++ List.replicate (ns.length - (Lib.compact ns).length) []) (by simp; omega)
    rw [← hw2] at hb
    refine ⟨_, rfl, by rw [hw2]; exact grownBy_sorted _, by simp [ks2], .inr ⟨g, cap, _, rfl, hbg, hb, by omega, hmx, by simp [putCells, hcs], ?_⟩⟩
    have h3 := congrArg (List.take (Lib.compact ns).length) ht
    rw [List.take_take] at h3
    simp only [List.length_append, List.length_replicate] at h3
    rw [Nat.min_eq_left (by omega), List.map_append, List.take_left' (by simp)] at h3
    simpa [ks2] using h3

theorem rise_compact (zs : List (List UInt8)) (h : zs.Pairwise (· ≤ ·)) : Rise (Lib.compact zs) := by
  unfold Rise Lib.compact Lib.compactUpTo
  rw [List.pairwise_map, List.pairwise_filter]
  have hr : (List.range zs.length).Pairwise (fun a b => a < b ∧ b < zs.length) := by
    rw [List.pairwise_iff_getElem]
    intro i j hi hj hij
    simp at hi hj ⊢
    omega
  refine hr.imp ?_
  rintro a b ⟨hab, hb⟩ _ hk
  have hb0 : b ≠ 0 := by omega
  simp only [Lib.keeps, hb0, false_or, decide_eq_true_eq] at hk
  have e1 : zs.toArray[b]! = zs[b] := by simp [hb]
  have e2 : zs.toArray[b - 1]! = zs[b - 1] := by simp [show b - 1 < zs.length from by omega]
  have e3 : zs.toArray[a]! = zs[a] := by simp [show a < zs.length from by omega]
  rw [e1, e2] at hk
  rw [e1, e3]
  have le1 : zs[b - 1] ≤ zs[b] := (List.pairwise_iff_getElem.1 h) (b - 1) b (by omega) hb (by omega)
  have lt1 : zs[b - 1] < zs[b] := by
    rcases tri zs[b - 1] zs[b] with h1 | h1 | h1
    · exact h1
    · exact absurd h1.symm hk
    · exact absurd h1 (List.not_lt.2 le1)
  by_cases hab1 : a = b - 1
  · subst hab1; exact lt1
  · have le2 : zs[a] ≤ zs[b - 1] := (List.pairwise_iff_getElem.1 h) a (b - 1) (by omega) (by omega) (by omega)
    rcases tri zs[a] zs[b - 1] with h1 | h1 | h1
    · exact lt_trans h1 lt1
    · rw [h1]; exact lt1
    · exact absurd h1 (List.not_lt.2 le2)

theorem sorted_merge (ss : List (List UInt8)) : (ss.mergeSort fun x y => decide (x ≤ y)).Pairwise (· ≤ ·) := by
  have h := List.pairwise_mergeSort (le := fun (x y : List UInt8) => decide (x ≤ y)) (fun a b c h1 h2 => by
    simp only [decide_eq_true_eq] at *
    exact List.le_trans h1 h2) (fun a b => by
    simp only [Bool.or_eq_true, decide_eq_true_eq]
    exact List.le_total a b) ss
  exact h.imp (fun h => by simpa using h)

theorem compact_has (zs : List (List UInt8)) : ∀ j (hj : j < zs.length), zs[j] ∈ Lib.compact zs := by
  intro j
  induction j using Nat.strongRecOn with
  | _ j ih =>
    intro hj
    have e1 : zs.toArray[j]! = zs[j] := by simp [hj]
    by_cases hk : Lib.keeps zs.toArray j = true
    · unfold Lib.compact Lib.compactUpTo
      refine List.mem_map.2 ⟨j, List.mem_filter.2 ⟨List.mem_range.2 hj, hk⟩, e1⟩
    · simp only [Lib.keeps, decide_eq_true_eq, not_or, Decidable.not_not] at hk
      have e2 : zs.toArray[j - 1]! = zs[j - 1] := by simp [show j - 1 < zs.length from by omega]
      have h := ih (j - 1) (by omega) (by omega)
      rw [← e1, hk.2, e2]
      exact h

/-- The names of the debts. -/
def nms (l : List Debt) : List (List UInt8) := l.flatMap fun x => [x.1, x.2.1]
def mem (l : List Debt) : List (List UInt8) := Lib.compact ((nms l).mergeSort fun x y => decide (x ≤ y))
theorem nms_length (l : List Debt) : (nms l).length = l.length * 2 := by
  induction l with
  | nil => rfl
  | cons x l ih => simp only [nms, List.flatMap_cons, List.length_append, List.length_cons] at *; rw [ih]; simp; omega
theorem mem_rise (l : List Debt) : Rise (mem l) := rise_compact _ (sorted_merge _)
theorem mem_length (l : List Debt) : (mem l).length ≤ l.length * 2 := by
  have h := Lib.compact_length_le ((nms l).mergeSort fun x y => decide (x ≤ y))
  rw [List.length_mergeSort, nms_length] at h
  exact h
theorem mem_has (l : List Debt) {j : Nat} (hj : j < l.length) : l[j].1 ∈ mem l ∧ l[j].2.1 ∈ mem l := by
  have h : ∀ s, s ∈ nms l → s ∈ mem l := by
    intro s hs
    have h1 : s ∈ (nms l).mergeSort fun x y => decide (x ≤ y) := (List.mem_mergeSort).2 hs
    obtain ⟨k, hk, rfl⟩ := List.mem_iff_getElem.1 h1
    exact compact_has _ k hk
  have hl : l[j] ∈ l := List.getElem_mem hj
  exact ⟨h _ (List.mem_flatMap.2 ⟨_, hl, by simp⟩), h _ (List.mem_flatMap.2 ⟨_, hl, by simp⟩)⟩
end Go.Proofs.Ybulkcmrw.W
