/-
  slices.Clone at three types, and the name's letter.
-/
import Derived.Test.YbulkcmrwCmp
import Derived.Lib.LazyBuf
namespace Go.Proofs.Ybulkcmrw.W
open Go Go.RowKit Go.Proofs.Ybulkcmrw.Mem Go.Proofs.Ybulkcmrw.G

theorem info27 : (Yba.prog.info? 27).map (fun i => (i.zero, i.size, i.bytes)) = some (some (.int .i64 0), 1, 8) := by kernel_rfl
theorem info21c : (Yba.prog.info? 21).map (fun i => (i.zero, i.size, i.bytes)) = some (some (.int .i32 0), 1, 4) := by kernel_rfl
theorem info29 : (Yba.prog.info? 29).map (fun i => (i.zero, i.size, i.bytes)) = some (some (.agg #[.string ⟨#[]⟩, .string ⟨#[]⟩, .int .i64 0]), 3, 40) := by kernel_rfl

set_option maxHeartbeats 2000000 in
set_option maxRecDepth 100000 in
theorem clone6 (g n c : Nat) (xs : List Value) (w : World) (hl : xs.length = n) (hn : n ≤ 100000) (hc : ∀ j u, xs[j]? = some u → w.cell? ⟨g, j, none⟩ = some u) (h1 : ∀ u ∈ xs, u.oneCell' = true) :
    Calls Yba.prog 6 #[.slice (some ⟨g, 0, none⟩) n c] w fun e w' => ∃ g' c', e = .returned (.slice (some ⟨g', 0, none⟩) n c') ∧ (∀ j u, xs[j]? = some u → w'.cell? ⟨g', j, none⟩ = some u) ∧ Below w.heap.size w w' := by
  obtain ⟨i0, hi0, hz0, hz1, hz2⟩ := info_parts info27
  have ho := World.ownsRow_lit (base := w.heap.size) (e := 27) (size := 1) w #[] 0 (Nat.le_refl _) (by decide) rfl
  have hadd : ∀ (b j : Nat), (⟨b, 0, none⟩ : Addr).add j = ⟨b, j, none⟩ := fun b j => by unfold Addr.add; split <;> simp_all
  have hb0 : Below w.heap.size w (w.alloc (.cells #[] 27)) := (Below.refl _ w).alloc (Nat.le_refl _) _
  have hsrc : Hid (∀ j u, xs[j]? = some u → (w.alloc (.cells #[] 27)).cell? ((⟨g, 0, none⟩ : Addr).add j) = some u) := by
    intro j u hj
    rw [hadd]
    have h2 := hc j u hj
    exact (hb0.cell (World.block_lt_of_cell? w _ h2)).trans h2
  have H1 : Hid (∀ u ∈ xs, u.oneCell' = true) := h1
  clear hc h1
  have hnl := fun w : World => run_eql_slice_nil (P := Yba.prog) w 32 27 (some ⟨g, 0, none⟩) n c Yba.underlying32
  go_enter Yba.func6, Yba.ntmps6
  go_wp2_with (at_builtin; refine wpList_append_own _ rfl (.tmp 5) (.tmp 6) 32 rfl w.heap.size 27 i0 (.int .i64 0) 1 8 Yba.underlying32 hi0 hz0 hz1 hz2 rfl (by decide) _ _ _ rfl ho _ n c xs rfl (by omega) hsrc.out H1.out ?d1 ?d2 ?d3 ?_)
  case d1 => unfold maxLen; omega
  case d2 => omega
  intro v2 w2 ho2 hg2 hnil
  have hb2 : Below w.heap.size w w2 := hb0.grown hg2 (by simp) (fun k hk => (ho.lt k hk).1)
  obtain ⟨g2, c2, rfl⟩ : ∃ g' c', v2 = .slice (some ⟨g', 0, none⟩) n c' := by
    rcases ho2.2 with ⟨hv, _⟩ | ⟨g', cp, cur, hv, _⟩
    · exact absurd hv hnil
    · exact ⟨g', cp, hv⟩
  have HC : Hid (∀ j u, xs[j]? = some u → w2.cell? ⟨g2, j, none⟩ = some u) := by
    intro j u hj
    have := ho2.cells rfl j u (by simpa using hj)
    rw [hadd] at this
    exact this
  clear ho2 hg2 hnil ho hb0
  go_wp2
  go_ret
  exact ⟨g2, c2, rfl, HC.out, hb2⟩

set_option maxHeartbeats 2000000 in
set_option maxRecDepth 100000 in
theorem clone7 (g n c : Nat) (xs : List Value) (w : World) (hl : xs.length = n) (hn : n ≤ 100000) (hc : ∀ j u, xs[j]? = some u → w.cell? ⟨g, j, none⟩ = some u) (h1 : ∀ u ∈ xs, u.oneCell' = true) :
    Calls Yba.prog 7 #[.slice (some ⟨g, 0, none⟩) n c] w fun e w' => ∃ g' c', e = .returned (.slice (some ⟨g', 0, none⟩) n c') ∧ (∀ j u, xs[j]? = some u → w'.cell? ⟨g', j, none⟩ = some u) ∧ Below w.heap.size w w' := by
  obtain ⟨i0, hi0, hz0, hz1, hz2⟩ := info_parts info21c
  have ho := World.ownsRow_lit (base := w.heap.size) (e := 21) (size := 1) w #[] 0 (Nat.le_refl _) (by decide) rfl
  have hadd : ∀ (b j : Nat), (⟨b, 0, none⟩ : Addr).add j = ⟨b, j, none⟩ := fun b j => by unfold Addr.add; split <;> simp_all
  have hb0 : Below w.heap.size w (w.alloc (.cells #[] 21)) := (Below.refl _ w).alloc (Nat.le_refl _) _
  have hsrc : Hid (∀ j u, xs[j]? = some u → (w.alloc (.cells #[] 21)).cell? ((⟨g, 0, none⟩ : Addr).add j) = some u) := by
    intro j u hj
    rw [hadd]
    have h2 := hc j u hj
    exact (hb0.cell (World.block_lt_of_cell? w _ h2)).trans h2
  have H1 : Hid (∀ u ∈ xs, u.oneCell' = true) := h1
  clear hc h1
  have hnl := fun w : World => run_eql_slice_nil (P := Yba.prog) w 34 21 (some ⟨g, 0, none⟩) n c Yba.underlying34
  go_enter Yba.func7, Yba.ntmps7
  go_wp2_with (at_builtin; refine wpList_append_own _ rfl (.tmp 5) (.tmp 6) 34 rfl w.heap.size 21 i0 (.int .i32 0) 1 4 Yba.underlying34 hi0 hz0 hz1 hz2 rfl (by decide) _ _ _ rfl ho _ n c xs rfl (by omega) hsrc.out H1.out ?d1 ?d2 ?d3 ?_)
  case d1 => unfold maxLen; omega
  case d2 => omega
  intro v2 w2 ho2 hg2 hnil
  have hb2 : Below w.heap.size w w2 := hb0.grown hg2 (by simp) (fun k hk => (ho.lt k hk).1)
  obtain ⟨g2, c2, rfl⟩ : ∃ g' c', v2 = .slice (some ⟨g', 0, none⟩) n c' := by
    rcases ho2.2 with ⟨hv, _⟩ | ⟨g', cp, cur, hv, _⟩
    · exact absurd hv hnil
    · exact ⟨g', cp, hv⟩
  have HC : Hid (∀ j u, xs[j]? = some u → w2.cell? ⟨g2, j, none⟩ = some u) := by
    intro j u hj
    have := ho2.cells rfl j u (by simpa using hj)
    rw [hadd] at this
    exact this
  clear ho2 hg2 hnil ho hb0
  go_wp2
  go_ret
  exact ⟨g2, c2, rfl, HC.out, hb2⟩

set_option maxHeartbeats 2000000 in
set_option maxRecDepth 100000 in
/-- A clone of debts: a row of its own. -/
theorem clone13 (g n c : Nat) (xs : List Value) (w : World) (hl : xs.length = n * 3) (hn : n ≤ 100000) (hc : ∀ j u, xs[j]? = some u → w.cell? ⟨g, j, none⟩ = some u) (h1 : ∀ u ∈ xs, u.oneCell' = true) :
    Calls Yba.prog 13 #[.slice (some ⟨g, 0, none⟩) n c] w fun e w' => ∃ g' c', e = .returned (.slice (some ⟨g', 0, none⟩) n c') ∧ w'.ownsRow w.heap.size 29 3 (.slice (some ⟨g', 0, none⟩) n c') n xs ∧ Below w.heap.size w w' := by
  obtain ⟨i0, hi0, hz0, hz1, hz2⟩ := info_parts info29
  have ho := World.ownsRow_lit (base := w.heap.size) (e := 29) (size := 3) w #[] 0 (Nat.le_refl _) (by decide) rfl
  have hadd : ∀ (b j : Nat), (⟨b, 0, none⟩ : Addr).add j = ⟨b, j, none⟩ := fun b j => by unfold Addr.add; split <;> simp_all
  have hb0 : Below w.heap.size w (w.alloc (.cells #[] 29)) := (Below.refl _ w).alloc (Nat.le_refl _) _
  have hsrc : Hid (∀ j u, xs[j]? = some u → (w.alloc (.cells #[] 29)).cell? ((⟨g, 0, none⟩ : Addr).add j) = some u) := by
    intro j u hj
    rw [hadd]
    have h2 := hc j u hj
    exact (hb0.cell (World.block_lt_of_cell? w _ h2)).trans h2
  have H1 : Hid (∀ u ∈ xs, u.oneCell' = true) := h1
  clear hc h1
  have hnl := fun w : World => run_eql_slice_nil (P := Yba.prog) w 23 29 (some ⟨g, 0, none⟩) n c Yba.underlying23
  go_enter Yba.func13, Yba.ntmps13
  go_wp2_with (at_builtin; refine wpList_append_own _ rfl (.tmp 5) (.tmp 6) 23 rfl w.heap.size 29 i0 (.agg #[.string ⟨#[]⟩, .string ⟨#[]⟩, .int .i64 0]) 3 40 Yba.underlying23 hi0 hz0 hz1 hz2 rfl (by decide) _ _ _ rfl ho _ n c xs rfl (by omega) hsrc.out H1.out ?d1 ?d2 ?d3 ?_)
  case d1 => unfold maxLen; omega
  case d2 => omega
  intro v2 w2 ho2 hg2 hnil
  have hb2 : Below w.heap.size w w2 := hb0.grown hg2 (by simp) (fun k hk => (ho.lt k hk).1)
  obtain ⟨g2, c2, rfl⟩ : ∃ g' c', v2 = .slice (some ⟨g', 0, none⟩) n c' := by
    rcases ho2.2 with ⟨hv, _⟩ | ⟨g', cp, cur, hv, _⟩
    · exact absurd hv hnil
    · exact ⟨g', cp, hv⟩
  have HC : Hid (w2.ownsRow w.heap.size 29 3 (.slice (some ⟨g2, 0, none⟩) n c2) n xs) := ho2
  clear ho2 hg2 hnil ho hb0
  go_wp2
  go_ret
  exact ⟨g2, c2, rfl, HC.out, hb2⟩

/-- The letter that stands for x. -/
def nm (x : Nat) : ByteArray := (ByteArray.mk #[97, 98, 99, 100, 101, 102, 103, 104, 105, 106, 107, 108]).extract (x % 12) (x % 12 + 1)

set_option maxHeartbeats 2000000 in
set_option maxRecDepth 100000 in
theorem nameOf (x : Nat) (hx : x < 256) (w : World) : Calls Yba.prog 4 #[.int .u8 (x : Nat)] w fun e w' => e = .returned (.string (nm x)) ∧ w' = w := by
  have y1 : (x : Int) % 12 + 1 ≤ 12 := by omega
  have y2 : (0 : Int) ≤ (x : Int) % 12 := by omega
  have y3 : (x : Int) % 12 ≤ (x : Int) % 12 + 1 := by omega
  go_enter Yba.func4, Yba.ntmps4
  go_wp2
  go_ret
  exact ⟨rfl, rfl⟩
end Go.Proofs.Ybulkcmrw.W
