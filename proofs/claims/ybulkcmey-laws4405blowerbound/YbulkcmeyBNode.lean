/-
  A node's block: newNode.
-/
import Derived.Test.YbulkcmeyBHead
namespace Go.Proofs.Ybulkcmey.B
open Go Go.RowKit

section
variable {w : World} {hb : Nat} {C : Array Value} {t : TypeId}
theorem blk_cell (h : w.heap[hb]? = some (.cells C t (0, 0))) (o : Nat) : w.cell? ⟨hb, o, none⟩ = C[o]? := by simp [World.cell?, h]
theorem blk_free (h : w.heap[hb]? = some (.cells C t (0, 0))) (o : Nat) : w.frozen? ⟨hb, o, none⟩ = false := by simp [World.frozen?, h]
theorem blk_set (h : w.heap[hb]? = some (.cells C t (0, 0))) (o : Nat) (u : Value) : (w.setCell ⟨hb, o, none⟩ u).heap[hb]? = some (.cells (C.setIfInBounds o u) t (0, 0)) := by simp [World.setCell, Array.getElem?_modify, h]
end

theorem zero94 : Yba.zeroCells94.size = 99 := by kernel_rfl
theorem zero94_36 : Yba.zeroCells94[36]? = some (.int .u32 0) := by kernel_rfl

theorem set_same (C : Array Value) (o : Nat) (u : Value) (h : o < C.size) : (C.setIfInBounds o u)[o]? = some u := by
  rw [Array.getElem?_setIfInBounds, if_pos rfl, if_pos h]
theorem set_other (C : Array Value) (o k : Nat) (u : Value) (h : o ≠ k) : (C.setIfInBounds o u)[k]? = C[k]? := by
  rw [Array.getElem?_setIfInBounds, if_neg h]
theorem some_at (C : Array Value) (o : Nat) (h : o < C.size) : ∃ u, C[o]? = some u := ⟨_, Array.getElem?_eq_getElem h⟩

set_option maxHeartbeats 4000000 in
set_option maxRecDepth 100000 in
theorem newNode (w : World) :
    Calls Yba.prog 32 #[.bool false] w fun e w' => ∃ hb C, e = .returned (.pointer (some ⟨hb, 0, none⟩)) ∧ w'.heap[hb]? = some (.cells C 94 (0, 0)) ∧ C.size = 99 ∧ (∀ j, j < 31 → C[2 + j]? = some (.int .u32 4294967295)) ∧ C[36]? = some (.int .u32 0) ∧ w.heap.size ≤ hb ∧ Below w.heap.size w w' := by
  go_enter Yba.func32, Yba.ntmps32
  go_upto_block 0 with fail
  go_cut [8] (fun _ wx => ∃ C, wx.heap[w.heap.size + 1]? = some (.cells C 94 (0, 0)) ∧ C.size = 99 ∧ (∀ j, j < 31 → C[2 + j]? = some (.int .u32 4294967295)) ∧ C[36]? = some (.int .u32 0) ∧ Below w.heap.size w wx)
  case first =>
    go_wp2_with fail
    go_loopg [8] 31 (fun gk iv wr => ∃ (i : Nat) (C : Array Value), i + gk = 31 ∧ iv = .int .i64 (i : Nat) ∧ wr.heap[w.heap.size + 1]? = some (.cells C 94 (0, 0)) ∧ C.size = 99 ∧ (∀ j, j < i → C[2 + j]? = some (.int .u32 4294967295)) ∧ C[36]? = some (.int .u32 0) ∧ Below w.heap.size w wr)
    case atStart =>
      have e := heap_alloc_new (w.alloc (.cells #[.int .i64 0, .int .i64 0, .int .i64 0, .int .i64 0, .int .i64 0, .int .i64 0, .int .i64 0, .int .i64 0, .int .i64 0, .int .i64 0, .int .i64 0, .int .i64 0, .int .i64 0, .int .i64 0, .int .i64 0, .int .i64 0, .int .i64 0, .int .i64 0, .int .i64 0, .int .i64 0, .int .i64 0, .int .i64 0, .int .i64 0, .int .i64 0, .int .i64 0, .int .i64 0, .int .i64 0, .int .i64 0, .int .i64 0, .int .i64 0, .int .i64 0] 104)) (.cells (Yba.zeroCells94.setIfInBounds 34 (.pointer (some ⟨w.heap.size, 0, none⟩))) 94)
      have e2 : (w.alloc (.cells #[.int .i64 0, .int .i64 0, .int .i64 0, .int .i64 0, .int .i64 0, .int .i64 0, .int .i64 0, .int .i64 0, .int .i64 0, .int .i64 0, .int .i64 0, .int .i64 0, .int .i64 0, .int .i64 0, .int .i64 0, .int .i64 0, .int .i64 0, .int .i64 0, .int .i64 0, .int .i64 0, .int .i64 0, .int .i64 0, .int .i64 0, .int .i64 0, .int .i64 0, .int .i64 0, .int .i64 0, .int .i64 0, .int .i64 0, .int .i64 0, .int .i64 0] 104)).heap.size = w.heap.size + 1 := by simp
      rw [e2] at e
      refine ⟨0, Yba.zeroCells94.setIfInBounds 34 (.pointer (some ⟨w.heap.size, 0, none⟩)), by omega, rfl, e, ?_, ?_, ?_, ?_⟩
      · rw [Array.size_setIfInBounds]; exact zero94
      · intro j hj; omega
      · rw [set_other _ _ _ _ (by omega)]; exact zero94_36
      · exact ((Below.refl _ w).alloc (Nat.le_refl _) _).alloc (by simp) _
    case round =>
      obtain ⟨i, C, hi, rfl, hblk, hsz, hhd, h36, hbel⟩ := hrel
      have HI : Hid (i + gk = 31) := hi
      by_cases hlt : i < 31
      · obtain ⟨u, hu⟩ := some_at C (2 + i) (by omega)
        have hc := (blk_cell hblk (2 + i)).trans hu
        have hf := blk_free hblk
        have hI : (i : Int) < 31 := by omega
        have HB : Hid (_ = _) := hblk
        have HD : Hid (∀ j, j < i → C[2 + j]? = some (.int .u32 4294967295)) := hhd
        clear hi hblk hhd hu
        go_wp2
        go_roundg (gk - 1)
        case measure => have := HI.out; omega
        case rel =>
          refine ⟨i + 1, C.setIfInBounds (2 + i) (.int .u32 4294967295), by have := HI.out; omega, by go_num, ?_, by simpa using hsz, ?_, ?_, ?_⟩
          · exact blk_set HB.out _ _
          · intro j hj
            by_cases e : j = i
            · subst e; exact set_same _ _ _ (by omega)
            · rw [set_other _ _ _ _ (by omega)]; exact HD.out j (by omega)
          · rw [set_other _ _ _ _ (by omega)]; exact h36
          · exact hbel.setCell (p := ⟨w.heap.size + 1, 2 + i, none⟩) (by simp) _
      · have hI : ¬ (i : Int) < 31 := by omega
        have HD : Hid (∀ j, j < 31 → C[2 + j]? = some (.int .u32 4294967295)) := fun j hj => hhd j (by omega)
        clear hhd
        go_wp2_with fail
        go_meet
        exact ⟨C, hblk, hsz, HD.out, h36, hbel⟩
  case rest =>
    obtain ⟨C, hblk, hsz, hhd, h36, hbel⟩ := hcut
    have HD : Hid (∀ j, j < 31 → C[2 + j]? = some (.int .u32 4294967295)) := hhd
    clear hhd
    go_wp2
    go_ret
    exact ⟨w.heap.size + 1, C, rfl, hblk, hsz, HD.out, h36, by omega, hbel⟩
end Go.Proofs.Ybulkcmey.B
