/-
  What the arguments' readings tell: a slice of strings.
-/
import Derived.Test.YbulkcmeyBKeys
import Derived.ProofKit
import Derived.OpenShut
import Derived.SliceStrings
import Derived.ChangeOld
namespace Go.Proofs.Ybulkcmey.B
open Go Go.RowKit Go.ChangeShapes Go.WideShapes

theorem cells9 : Yba.prog.cellsOf 9 = 1 := by kernel_rfl

theorem mk_of_toList (s : ByteArray) : ByteArray.mk s.toList.toArray = s := by
  rw [ByteArray.toList_eq]

theorem openStrs {H : Type} {enc : TypeId × Value → H} {W : World} {held : Bool} {n : Nat} {a0 : Option Addr} {len cap : Nat} {y : DataW H × List MemPlace} (h : DataW.trod enc Yba.prog W 0 (fun _ => true) held n 51 [.slice a0 len cap] = some y) :
    ∃ ss : List (List UInt8), ss.length = len ∧ StrsAt W a0 len ss ∧ (∀ ad, a0 = some ad → 0 < len → ad.block < W.heap.size) ∧ len ≤ maxLen := by
  rcases open_strings Yba.underlying51 Yba.underlying9 cells9 h with ⟨hcs, _⟩ | ⟨a, len', cap', ss, hcs, _, hl, hm, hz, _, hcell, _⟩
  · simp at hcs
    obtain ⟨rfl, rfl, rfl⟩ := hcs
    exact ⟨[], rfl, ⟨rfl, fun _ => rfl, fun ad e => (by cases e)⟩, fun ad e => (by cases e), Nat.zero_le _⟩
  · simp at hcs
    obtain ⟨rfl, rfl, rfl⟩ := hcs
    have hzl : ss.length = cap := by simpa using hz
    have hlen : ((ss.take len).map ByteArray.toList).length = len := by simp; omega
    refine ⟨(ss.take len).map ByteArray.toList, hlen, ⟨hlen, fun e => (by cases e), ?_⟩, ?_, by omega⟩
    · intro ad e j u hj
      cases e
      have hjl : j < len := by
        have := (List.getElem?_eq_some_iff.1 hj).1
        simp at this
        omega
      rw [hcell j (by omega)]
      have hjz : j < ss.length := by omega
      have hu : (((ss.take len).map ByteArray.toList).map encStr)[j]? = some (.string (ss.getD j ByteArray.empty)) := by
        simp only [List.getElem?_map, List.getElem?_take, hjl, if_true, List.getElem?_eq_getElem hjz, Option.map_some, List.getD_eq_getElem?_getD, Option.getD_some]
        exact congrArg (fun z => some (Value.string z)) (mk_of_toList _)
      rw [hu] at hj
      exact hj
    · intro ad e hpos
      cases e
      have := World.block_lt_of_cell? W _ (hcell 0 (by omega))
      unfold Addr.add at this
      simpa using this
end Go.Proofs.Ybulkcmey.B
