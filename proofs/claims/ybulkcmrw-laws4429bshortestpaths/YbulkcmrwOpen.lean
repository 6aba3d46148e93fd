/-
  The whole law, and what the argument's reading tells.
-/
import Derived.Test.YbulkcmrwNew
import Derived.ProofKit
import Derived.OpenShut
import Derived.ChangeOld
import Derived.Deep.Slices
import Derived.Deep.Strs
namespace Go.Proofs.Ybulkcmrw.W
open Go Go.RowKit Go.ChangeShapes Go.WideShapes

theorem cells25 : Yba.prog.cellsOf 25 = 3 := by kernel_rfl
theorem cells5 : Yba.prog.cellsOf 5 = 1 := by kernel_rfl
theorem cells2 : Yba.prog.cellsOf 2 = 1 := by kernel_rfl

set_option maxHeartbeats 2000000 in
set_option maxRecDepth 100000 in
/-- More than 1024 debts: nothing is looked at. -/
theorem lawMany (ao : Option Addr) (c n : Nat) (w : World) (hn : 1024 < n) : Calls Yba.prog 3 #[.slice ao n c] w fun e w' => e = .returned (.bool true) ∧ Below w.heap.size w w' := by
  have h1 : (n : Int) > 1024 := by omega
  have hb : Below w.heap.size w w := Below.refl _ _
  go_enter Yba.func3, Yba.ntmps3
  go_wp2
  go_ret
  exact ⟨rfl, hb⟩

theorem law (ao : Option Addr) (c b off : Nat) (xs : List Raw) (w : World) (hs : 0 < xs.length → ao = some ⟨b, off, none⟩) (hl : ∀ j (h : j < xs.length), LiesR w b off xs[j] j) (hbw : 0 < xs.length → b < w.heap.size) :
    Calls Yba.prog 3 #[.slice ao xs.length c] w fun e w' => e = .returned (.bool true) ∧ Below w.heap.size w w' := by
  by_cases hn : xs.length ≤ 1024
  · exact lawMain newOk ao c b off xs w hs hl hbw hn
  · exact lawMany ao c xs.length w (by omega)

section
variable {H : Type} {enc : TypeId × Value → H} {W : World} {held : Bool}

set_option maxRecDepth 100000 in
/-- A debt, out of its three cells. -/
theorem openRaw {n : Nat} {cs : List Value} {y : DataW H × List MemPlace} (h : DataW.trod enc Yba.prog W 0 (fun _ => true) held n 25 cs = some y) :
    ∃ s : Raw, cs = [.int .u8 (s.d : Nat), .int .u8 (s.c : Nat), .int .i64 s.a] ∧ s.d < 256 ∧ s.c < 256 := by
  obtain ⟨xs, k, _, _, hlen, hxl, hf⟩ := DataW.trod_struct Yba.underlying25 h
  rw [cells25] at hlen
  match xs, hxl, cs, hlen with
  | [y0, y1, y2], _, [v0, v1, v2], _ =>
    have g0 : DataW.trod enc Yba.prog W 0 (fun _ => true) held k 5 [v0] = some y0 := by have := hf 0 _ rfl; simpa [cells5] using this
    have g1 : DataW.trod enc Yba.prog W 0 (fun _ => true) held k 5 [v1] = some y1 := by have := hf 1 _ rfl; simpa [cells5] using this
    have g2 : DataW.trod enc Yba.prog W 0 (fun _ => true) held k 2 [v2] = some y2 := by have := hf 2 _ rfl; simpa [cells2] using this
    obtain ⟨d, e0, _, w0⟩ := DataW.trod_int Yba.underlying5 g0
    obtain ⟨c, e1, _, w1⟩ := DataW.trod_int Yba.underlying5 g1
    obtain ⟨a, e2, _, _⟩ := DataW.trod_int Yba.underlying2 g2
    simp at e0 e1 e2
    subst e0 e1 e2
    have b0 := bounds_u8 w0
    have b1 := bounds_u8 w1
    refine ⟨⟨d.toNat, c.toNat, a⟩, ?_, by show d.toNat < 256; omega, by show c.toNat < 256; omega⟩
    show [Value.int .u8 d, Value.int .u8 c, Value.int .i64 a] = [Value.int .u8 ((d.toNat : Nat) : Int), Value.int .u8 ((c.toNat : Nat) : Int), Value.int .i64 a]
    rw [Int.toNat_of_nonneg (by omega), Int.toNat_of_nonneg (by omega)]

set_option maxRecDepth 100000 in
/-- A slice of debts that came in. -/
theorem openRaws {a0 : Option Addr} {len cap : Nat} {d0 : DataW H} {p0 : List MemPlace} (h0 : DataW.Trod enc Yba.prog W 0 (fun _ => true) held 22 (.slice a0 len cap) d0 p0) :
    ∃ (b off : Nat) (ss : List Raw), ss.length = len ∧ (0 < ss.length → a0 = some ⟨b, off, none⟩) ∧ (∀ i (h : i < ss.length), LiesR W b off ss[i] i) ∧ (0 < ss.length → b < W.heap.size) := by
  obtain ⟨fuel, hf⟩ := h0
  rcases Go.Deep.open_slice Yba.underlying22 hf with ⟨hcs, _⟩ | ⟨a, len', cap', m, n, D, Pl, hcs, _, hl, hm, hmm, _, hx⟩
  · simp [Value.cells] at hcs
    obtain ⟨rfl, rfl, rfl⟩ := hcs
    exact ⟨0, 0, [], rfl, by simp, by intro i h; simp at h, by simp⟩
  · simp [Value.cells] at hcs
    obtain ⟨rfl, rfl, rfl⟩ := hcs
    simp at hmm
    subst hmm
    rw [cells25] at hx
    by_cases hpos : 0 < len
    · have each : ∀ i, i < len → ∃ s : Raw, (W.cell? (a.add (i * 3)) = some (.int .u8 (s.d : Nat)) ∧ W.cell? (a.add (i * 3 + 1)) = some (.int .u8 (s.c : Nat)) ∧ W.cell? (a.add (i * 3 + 2)) = some (.int .i64 s.a)) ∧ s.d < 256 ∧ s.c < 256 := by
        intro i hi
        obtain ⟨cs', h1, h2⟩ := hx i (by omega)
        obtain ⟨_, hlen, hcell⟩ := World.cells?_some h1
        obtain ⟨s, rfl, r⟩ := openRaw h2
        have q0 := hcell 0 (by omega)
        have q1 := hcell 1 (by omega)
        have q2 := hcell 2 (by omega)
        rw [Go.Deep.add_add] at q0 q1 q2
        exact ⟨s, ⟨by simpa using q0, by simpa using q1, by simpa using q2⟩, r⟩
      obtain ⟨s0, hs0, _⟩ := each 0 hpos
      obtain ⟨b, off, spot⟩ := a
      have hspot : spot = none := by simpa [Addr.add] using World.cell?_spot hs0.1
      subst hspot
      have hadd : ∀ k, (⟨b, off, none⟩ : Addr).add k = ⟨b, off + k, none⟩ := fun k => by unfold Addr.add; split <;> simp_all
      have each' : ∀ i, i < len → ∃ s : Raw, LiesR W b off s i := by
        intro i hi
        obtain ⟨s, ⟨q0, q1, q2⟩, r1, r2⟩ := each i hi
        rw [hadd] at q0 q1 q2
        exact ⟨s, q0, by rw [Nat.add_assoc]; exact q1, by rw [Nat.add_assoc]; exact q2, r1, r2⟩
      refine ⟨b, off, List.ofFn (fun i : _root_.Fin len => Classical.choose (each' i.1 i.2)), by simp, fun _ => rfl, ?_, ?_⟩
      · intro i h
        have hi : i < len := by simpa using h
        simp only [List.getElem_ofFn]
        exact Classical.choose_spec (each' i hi)
      · intro _
        have := World.block_lt_of_cell? W _ hs0.1
        rw [hadd] at this
        exact this
    · have : len = 0 := by omega
      subst this
      exact ⟨0, 0, [], rfl, by simp, by intro i h; simp at h, by simp⟩
end
end Go.Proofs.Ybulkcmrw.W
