/-
  What holds between two rounds of the law's range over the entries.
-/
import Derived.Test.YbulkcmeyIter
namespace Go.Proofs.Ybulkcmey.Rec
open Go.RowKit Go.Sort
open Go.Proofs.Ybulkcmey.Hint

theorem wp_frame {c : Code} {P : Program} {Q : Exit → Act → World → Prop} {T : Array Value} {ds : List Deferred} {w : World} (h : ∀ T', T' = T → c.wp P Q { tmps := T', defers := ds } w) : c.wp P Q { tmps := T, defers := ds } w := h T rfl

theorem alloc4 (w : World) (a b c d : Obj) : ∀ V, V = (((w.alloc a).alloc b).alloc c).alloc d → V.heap[w.heap.size]? = some a ∧ V.heap[w.heap.size + 1]? = some b ∧ V.heap[w.heap.size + 2]? = some c ∧ V.heap[w.heap.size + 3]? = some d ∧
    V.heap.size = w.heap.size + 4 ∧ Below w.heap.size w V := by
  rintro V rfl
  have s1 : (w.alloc a).heap.size = w.heap.size + 1 := by simp
  have s2 : ((w.alloc a).alloc b).heap.size = w.heap.size + 2 := by simp
  have s3 : (((w.alloc a).alloc b).alloc c).heap.size = w.heap.size + 3 := by simp
  refine ⟨?_, ?_, ?_, ?_, by simp, ?_⟩
  · rw [Below.heap_alloc _ _ _ (by omega), Below.heap_alloc _ _ _ (by omega), Below.heap_alloc _ _ _ (by omega)]; exact heap_alloc_new w a
  · rw [Below.heap_alloc _ _ _ (by omega), Below.heap_alloc _ _ _ (by omega), ← s1]; exact heap_alloc_new _ b
  · rw [Below.heap_alloc _ _ _ (by omega), ← s2]; exact heap_alloc_new _ c
  · rw [← s3]; exact heap_alloc_new _ d
  · exact ((((Below.refl _ w).alloc (Nat.le_refl _) _).alloc (by omega) _).alloc (by omega) _).alloc (by omega) _

/-- W is V with the boxes N and N + 1 turned, and with new blocks. -/
structure Mid (V : World) (N : Nat) (W : World) (n p : Int) : Prop where
  os : W.os = V.os
  tape : W.tape = V.tape
  output : W.output = V.output
  size : V.heap.size ≤ W.heap.size
  old : ∀ k o, V.heap[k]? = some o → k ≠ N → k ≠ N + 1 → W.heap[k]? = some o
  nb : W.heap[N]? = some (.cells #[.int .i64 n] 3 (0, 0))
  pb : W.heap[N + 1]? = some (.cells #[.int .i64 p] 2 (0, 0))

section
variable {V W : World} {N : Nat} {n p : Int}

theorem Mid.start (hn : V.heap[N]? = some (.cells #[.int .i64 n] 3 (0, 0))) (hp : V.heap[N + 1]? = some (.cells #[.int .i64 p] 2 (0, 0))) : Mid V N V n p :=
  ⟨rfl, rfl, rfl, Nat.le_refl _, fun _ _ h _ _ => h, hn, hp⟩

theorem Mid.grown (h : Mid V N W n p) (hN : N + 1 < V.heap.size) {W' : World} {row : Option Nat} (hg : W.grownBy W' row) (hr : ∀ r, row = some r → V.heap.size ≤ r) : Mid V N W' n p := by
  have hk : ∀ k o, k < V.heap.size → W.heap[k]? = some o → W'.heap[k]? = some o := fun k o hlt ho =>
    (hg.block k (Array.getElem?_eq_some_iff.1 ho).1 (fun e => by have := hr k e.symm; omega)).trans ho
  exact ⟨hg.os.trans h.os, hg.tape.trans h.tape, hg.output.trans h.output, Nat.le_trans h.size hg.size,
    fun k o hv h1 h2 => hk k o (Array.getElem?_eq_some_iff.1 hv).1 (h.old k o hv h1 h2), hk _ _ (by omega) h.nb, hk _ _ (by omega) h.pb⟩

theorem Mid.drewN (h : Mid V N W n p) (m : Nat) : Mid V N (W.drewN m) n p := ⟨h.os, h.tape, h.output, h.size, h.old, h.nb, h.pb⟩
theorem Mid.drew (h : Mid V N W n p) : Mid V N W.drew n p := ⟨h.os, h.tape, h.output, h.size, h.old, h.nb, h.pb⟩
theorem Mid.alloc (h : Mid V N W n p) (hN : N + 1 < V.heap.size) (o : Obj) : Mid V N (W.alloc o) n p := h.grown hN (World.grownBy_alloc W o none) (by simp)

theorem one_set {w : World} {b : Nat} {x : Value} {t : TypeId} (h : w.heap[b]? = some (.cells #[x] t (0, 0))) (v : Value) : (w.setCell ⟨b, 0, none⟩ v).heap[b]? = some (.cells #[v] t (0, 0)) := by
  simp [World.setCell, Array.getElem?_modify, h]

theorem Mid.setN (h : Mid V N W n p) (m : Int) : Mid V N (W.setCell ⟨N, 0, none⟩ (.int .i64 m)) m p :=
  ⟨h.os, h.tape, h.output, by simpa [World.setCell] using h.size, fun k o hv h1 h2 => (Below.heap_setCell W ⟨N, 0, none⟩ _ k h1).trans (h.old k o hv h1 h2), one_set h.nb _,
    (Below.heap_setCell W ⟨N, 0, none⟩ _ (N + 1) (by simp)).trans h.pb⟩
theorem Mid.setP (h : Mid V N W n p) (m : Int) : Mid V N (W.setCell ⟨N + 1, 0, none⟩ (.int .i64 m)) n m :=
  ⟨h.os, h.tape, h.output, by simpa [World.setCell] using h.size, fun k o hv h1 h2 => (Below.heap_setCell W ⟨N + 1, 0, none⟩ _ k h2).trans (h.old k o hv h1 h2),
    (Below.heap_setCell W ⟨N + 1, 0, none⟩ _ N (by simp)).trans h.nb, one_set h.pb _⟩

theorem Mid.cell (h : Mid V N W n p) {k o : Nat} {v : Value} (hv : V.cell? ⟨k, o, none⟩ = some v) (h1 : k ≠ N) (h2 : k ≠ N + 1) : W.cell? ⟨k, o, none⟩ = some v := by
  have hlt := World.block_lt_of_cell? V _ hv
  have hb : W.heap[k]? = V.heap[k]? := by
    rw [h.old k _ (Array.getElem?_eq_getElem hlt) h1 h2, Array.getElem?_eq_getElem hlt]
  rw [World.cell?_of_block (w := V) (w' := W) (a := ⟨k, o, none⟩) hb]
  exact hv

theorem Mid.kp (h : Mid V N W n p) {W' : World} {n' p' : Int} (h' : Mid V N W' n' p') {hb g Bn : Nat} (l1 : hb < V.heap.size) (l2 : g < V.heap.size) (l3 : Bn < V.heap.size)
    (a1 : hb ≠ N ∧ hb ≠ N + 1) (a2 : g ≠ N ∧ g ≠ N + 1) (a3 : Bn ≠ N ∧ Bn ≠ N + 1) : KpE hb g Bn W W' := by
  have key : ∀ k, k < V.heap.size → k ≠ N → k ≠ N + 1 → W'.heap[k]? = W.heap[k]? := fun k hk h1 h2 => by
    rw [h.old k _ (Array.getElem?_eq_getElem hk) h1 h2, h'.old k _ (Array.getElem?_eq_getElem hk) h1 h2]
  exact ⟨key _ l1 a1.1 a1.2, key _ l2 a2.1 a2.2, key _ l3 a3.1 a3.2⟩

theorem Mid.below (h : Mid V N W n p) {B : Nat} (hB : B ≤ N) (hN : N < V.heap.size) : Below B V W :=
  ⟨h.os, h.tape, h.output, h.size, fun k hk => by rw [h.old k _ (Array.getElem?_eq_getElem (by omega)) (by omega) (by omega), Array.getElem?_eq_getElem (by omega)]⟩
end

theorem kpE_trans {hb g Bn : Nat} {A B C : World} (h : KpE hb g Bn A B) (k : KpE hb g Bn B C) : KpE hb g Bn A C := ⟨k.1.trans h.1, k.2.1.trans h.2.1, k.2.2.trans h.2.2⟩
theorem kpE_put {hb g Bn M : Nat} (l1 : hb < M) (l2 : g < M) (l3 : Bn < M) (W : World) (l : Nat) (o' : Obj) (hl : M ≤ l) : KpE hb g Bn W (W.putObj l o') :=
  ⟨World.putObj_heap_other (by omega), World.putObj_heap_other (by omega), World.putObj_heap_other (by omega)⟩
end Go.Proofs.Ybulkcmey.Rec
