/-
  newClearing's closure pair: the states, and one call.
-/
import Derived.Test.YbulkcmrwDist
import Derived.Deep.RegionHeld
namespace Go.Proofs.Ybulkcmrw.W
open Go Go.RowKit Go.Proofs.Ybulkcmrw.Mem Go.Proofs.Ybulkcmrw.G

def updN (f : Nat → Nat) (i x : Nat) : Nat → Nat := fun k => if k = i then x else f k

/-- What a step may change: the blocks bh, br, ba and rows of int32s from B1 on. -/
structure Fm (bh br ba B1 : Nat) (w w' : World) : Prop where
  os : w'.os = w.os
  tape : w'.tape = w.tape
  output : w'.output = w.output
  size : w.heap.size ≤ w'.heap.size
  keep : ∀ b cur t fr, w.heap[b]? = some (.cells cur t fr) → b ≠ bh → b ≠ br → b ≠ ba → (t ≠ 21 ∨ b < B1) → w'.heap[b]? = some (.cells cur t fr)
  low : ∀ b, b < w.heap.size → b < B1 → b ≠ bh → b ≠ br → b ≠ ba → w'.heap[b]? = w.heap[b]?

section
variable {bh br ba B1 : Nat} {w w' w'' : World}
theorem Fm.refl : Fm bh br ba B1 w w := ⟨rfl, rfl, rfl, Nat.le_refl _, fun _ _ _ _ h _ _ _ _ => h, fun _ _ _ _ _ _ => rfl⟩
theorem Fm.trans (h : Fm bh br ba B1 w w') (k : Fm bh br ba B1 w' w'') : Fm bh br ba B1 w w'' :=
  ⟨k.os.trans h.os, k.tape.trans h.tape, k.output.trans h.output, Nat.le_trans h.size k.size, fun b cur t fr hb h1 h2 h3 h4 => k.keep b cur t fr (h.keep b cur t fr hb h1 h2 h3 h4) h1 h2 h3 h4, fun b hb h0 h1 h2 h3 => (k.low b (Nat.lt_of_lt_of_le hb h.size) h0 h1 h2 h3).trans (h.low b hb h0 h1 h2 h3)⟩
theorem Fm.drew (h : Fm bh br ba B1 w w') : Fm bh br ba B1 w w'.drew := ⟨h.os, h.tape, h.output, h.size, h.keep, h.low⟩
theorem Fm.drewN (h : Fm bh br ba B1 w w') (m : Nat) : Fm bh br ba B1 w (w'.drewN m) := ⟨h.os, h.tape, h.output, h.size, h.keep, h.low⟩
theorem Fm.alloc (h : Fm bh br ba B1 w w') (o : Obj) : Fm bh br ba B1 w (w'.alloc o) :=
  h.trans ⟨rfl, rfl, rfl, by simp, fun b _ _ _ hb _ _ _ _ => (Below.heap_alloc _ _ _ (Array.getElem?_eq_some_iff.1 hb).1).trans hb, fun _ hb _ _ _ _ => Below.heap_alloc _ _ _ hb⟩
theorem Fm.set (h : Fm bh br ba B1 w w') {b0 : Nat} (hb0 : b0 = bh ∨ b0 = br ∨ b0 = ba) (o : Nat) (v : Value) : Fm bh br ba B1 w (w'.setCell ⟨b0, o, none⟩ v) :=
  h.trans ⟨rfl, rfl, rfl, by simp [World.setCell], fun b _ _ _ hb h1 h2 h3 _ => (Below.heap_setCell _ ⟨b0, o, none⟩ _ _ (by intro e; have e' : b = b0 := e; omega)).trans hb, fun b _ _ h1 h2 h3 => Below.heap_setCell _ ⟨b0, o, none⟩ _ _ (by intro e; have e' : b = b0 := e; omega)⟩
theorem Fm.grown (h : Fm bh br ba B1 w w') {v : Value} {n : Nat} {xs : List Value} (ho : w'.ownsRow B1 21 1 v n xs) (hg : w'.grownBy w'' v.ownBlock) : Fm bh br ba B1 w w'' :=
  h.trans ⟨hg.os, hg.tape, hg.output, hg.size, fun b cur t fr hb _ _ _ h4 => by
    rw [hg.block b (Array.getElem?_eq_some_iff.1 hb).1 ?_, hb]
    intro e
    obtain ⟨c2, h5⟩ := own_type ho e.symm
    rw [hb] at h5
    simp at h5
    rcases h4 with h4 | h4
    · exact h4 h5.2.1
    · have := (ho.lt b e.symm).1; omega, fun b hb h0 _ _ _ => hg.block b hb (fun e => by have := (ho.lt b e.symm).1; omega)⟩
end

theorem alloc_cell {w : World} {p : Addr} {v : Value} (h : w.cell? p = some v) : ∀ o, (w.alloc o).cell? p = some v := by
  intro o
  have hb := World.block_lt_of_cell? w p h
  rw [World.cell?_of_block (w := w) (Below.heap_alloc _ _ _ hb)]
  exact h
theorem row_some {w : World} {B : Nat} {e : TypeId} {v : Value} {n : Nat} {xs : List Value} (h : w.ownsRow B e 1 v (n + 1) xs) : ∃ g c, v = .slice (some ⟨g, 0, none⟩) (n + 1) c := by
  rcases h.2 with ⟨_, h0⟩ | ⟨g, cp, cur, hv, _⟩
  · omega
  · exact ⟨g, cp, hv⟩
theorem at_alloc {w : World} {o : Obj} {a b : Option Nat} (h : a = b ∨ a = some (w.heap.size + 1)) : a = b ∨ a = some (w.alloc o).heap.size := by
  rcases h with h | h
  · exact .inl h
  · exact .inr (by simpa using h)

/-- The states while the arcs are laid. -/
structure NC (wx : World) (bcv bc bh br ba B0 B1 m N : Nat) (CC : Nat → Value) (hf : Nat → Nat) (rf : Nat → Int) (rows : List (List Nat)) : Prop where
  var : wx.rowIs bcv 30 1 (fun _ => .pointer (some ⟨bc, 0, none⟩))
  cc : wx.rowIs bc 42 11 CC
  hh : wx.rowIs bh 21 (6 * m) (fun i => .int .i32 (hf i : Nat))
  rr : wx.rowIs br 27 (6 * m) (fun i => .int .i64 (rf i))
  tab : ∃ vs, Tab wx B0 B1 (.slice (some ⟨ba, 0, none⟩) N N) N vs rows
  hlt : bh < B1
  sz : B1 ≤ wx.heap.size
  c0 : CC 0 = .slice (some ⟨bh, 0, none⟩) (6 * m) (6 * m)
  c2 : CC 2 = .slice (some ⟨br, 0, none⟩) (6 * m) (6 * m)
  c9 : CC 9 = .slice (some ⟨ba, 0, none⟩) N N

section
variable {w wx : World} {bcv bc bh br ba B0 B1 m N : Nat} {CC : Nat → Value} {hf : Nat → Nat} {rf : Nat → Int} {rows : List (List Nat)}

theorem row_block {b : Nat} {t : TypeId} {n : Nat} {f : Nat → Value} (h : wx.rowIs b t n f) : ∃ cur, wx.heap[b]? = some (.cells cur t (0, 0)) := by obtain ⟨c, h1, _⟩ := h; exact ⟨c, h1⟩
theorem row_neq {b b' : Nat} {t t' : TypeId} {n n' : Nat} {f f' : Nat → Value} (h : wx.rowIs b t n f) (h' : wx.rowIs b' t' n' f') (ht : t ≠ t') : b ≠ b' := by
  rintro rfl
  obtain ⟨c1, h1⟩ := row_block h
  obtain ⟨c2, h2⟩ := row_block h'
  rw [h1] at h2
  simp at h2
  exact ht h2.2

theorem NC.drewN (h : NC wx bcv bc bh br ba B0 B1 m N CC hf rf rows) (k : Nat) : NC (wx.drewN k) bcv bc bh br ba B0 B1 m N CC hf rf rows := by
  obtain ⟨vs, ht⟩ := h.tab
  exact ⟨h.var, h.cc, h.hh, h.rr, ⟨vs, ht.own, ht.rl, ht.each, ht.dis⟩, h.hlt, h.sz, h.c0, h.c2, h.c9⟩
theorem NC.alloc (h : NC wx bcv bc bh br ba B0 B1 m N CC hf rf rows) (o : Obj) : NC (wx.alloc o) bcv bc bh br ba B0 B1 m N CC hf rf rows := by
  obtain ⟨vs, ht⟩ := h.tab
  exact ⟨h.var.alloc o, h.cc.alloc o, h.hh.alloc o, h.rr.alloc o, ⟨vs, ht.alloc o⟩, h.hlt, by have := h.sz; simp; omega, h.c0, h.c2, h.c9⟩
theorem NC.setH (h : NC wx bcv bc bh br ba B0 B1 m N CC hf rf rows) (i x : Nat) : NC (wx.setCell ⟨bh, i, none⟩ (.int .i32 (x : Nat))) bcv bc bh br ba B0 B1 m N CC (updN hf i x) rf rows := by
  obtain ⟨vs, ht⟩ := h.tab
  obtain ⟨cur, hb⟩ := row_block h.hh
  have n1 := row_neq h.var h.hh (by decide)
  have n2 := row_neq h.cc h.hh (by decide)
  have n3 := row_neq h.rr h.hh (by decide)
  refine ⟨h.var.setOther (a := ⟨bh, i, none⟩) n1 _, h.cc.setOther (a := ⟨bh, i, none⟩) n2 _, (h.hh.set i _).congr (fun j _ => ?_), h.rr.setOther (a := ⟨bh, i, none⟩) n3 _, ⟨vs, ht.setOther hb (by decide) (.inr h.hlt) i _⟩, h.hlt, by have := h.sz; simpa [World.setCell] using this, h.c0, h.c2, h.c9⟩
  unfold updN
  by_cases e : j = i <;> simp [e]
theorem NC.setR (h : NC wx bcv bc bh br ba B0 B1 m N CC hf rf rows) (i : Nat) (z : Int) : NC (wx.setCell ⟨br, i, none⟩ (.int .i64 z)) bcv bc bh br ba B0 B1 m N CC hf (upd rf i z) rows := by
  obtain ⟨vs, ht⟩ := h.tab
  obtain ⟨cur, hb⟩ := row_block h.rr
  have n1 := row_neq h.var h.rr (by decide)
  have n2 := row_neq h.cc h.rr (by decide)
  have n3 := row_neq h.hh h.rr (by decide)
  refine ⟨h.var.setOther (a := ⟨br, i, none⟩) n1 _, h.cc.setOther (a := ⟨br, i, none⟩) n2 _, h.hh.setOther (a := ⟨br, i, none⟩) n3 _, (h.rr.set i _).congr (fun j _ => ?_), ⟨vs, ht.setOther hb (by decide) (.inl (by decide)) i _⟩, h.hlt, by have := h.sz; simpa [World.setCell] using this, h.c0, h.c2, h.c9⟩
  unfold upd
  by_cases e : j = i <;> simp [e]
theorem NC.of_keep (h : NC wx bcv bc bh br ba B0 B1 m N CC hf rf rows) {w' : World} {vs : List Value} {rows' : List (List Nat)} (hk : ∀ b cur t, wx.heap[b]? = some (.cells cur t (0, 0)) → t ≠ 34 → (t ≠ 21 ∨ b < B1) → w'.heap[b]? = wx.heap[b]?) (hs : wx.heap.size ≤ w'.heap.size)
    (ht : Tab w' B0 B1 (.slice (some ⟨ba, 0, none⟩) N N) N vs rows') : NC w' bcv bc bh br ba B0 B1 m N CC hf rf rows' := by
  obtain ⟨c1, h1⟩ := row_block h.var
  obtain ⟨c2, h2⟩ := row_block h.cc
  obtain ⟨c3, h3⟩ := row_block h.hh
  obtain ⟨c4, h4⟩ := row_block h.rr
  exact ⟨h.var.of_block (hk _ _ _ h1 (by decide) (.inl (by decide))), h.cc.of_block (hk _ _ _ h2 (by decide) (.inl (by decide))), h.hh.of_block (hk _ _ _ h3 (by decide) (.inr h.hlt)), h.rr.of_block (hk _ _ _ h4 (by decide) (.inl (by decide))), ⟨vs, ht⟩, h.hlt, Nat.le_trans h.sz hs, h.c0, h.c2, h.c9⟩
theorem NC.k9 (h : NC wx bcv bc bh br ba B0 B1 m N CC hf rf rows) : wx.cell? ⟨bc, 9, none⟩ = some (.slice (some ⟨ba, 0, none⟩) N N) := by rw [← h.c9]; exact h.cc.cell (by omega)
/-- Row k has got one arc more. -/
theorem NC.pushed (h : NC wx bcv bc bh br ba B0 B1 m N CC hf rf rows) {w' : World} {vs : List Value} {k x : Nat} {v v' : Value} {r : List Nat} (ht : Tab wx B0 B1 (.slice (some ⟨ba, 0, none⟩) N N) N vs rows) (hv : vs[k]? = some v) (hr : rows[k]? = some r)
    (ho : w'.ownsRow B1 21 1 v' (r.length + 1) (ic r ++ [.int .i32 (x : Nat)])) (hg : wx.grownBy w' v.ownBlock) (hfr : v'.ownBlock = v.ownBlock ∨ v'.ownBlock = some wx.heap.size) :
    NC (w'.setCell ⟨ba, k, none⟩ v') bcv bc bh br ba B0 B1 m N CC hf rf (put rows k x) ∧ Fm bh br ba B1 wx (w'.setCell ⟨ba, k, none⟩ v') := by
  have hro := ht.each k v r hv hr
  have e : put rows k x = rows.set k (r ++ [x]) := by unfold put; rw [List.getD_eq_getElem?_getD, hr]; rfl
  have htp := ht.push hv hr ho hg hfr
  rw [e]
  refine ⟨h.of_keep (fun b cur t hb h34 h21 => ?_) ?_ htp, (Fm.refl.grown hro hg).set (.inr (.inr rfl)) _ _⟩
  · have hne : some b ≠ v.ownBlock := by
      intro e1
      obtain ⟨c2, h5⟩ := own_type hro e1.symm
      rw [hb] at h5
      simp at h5
      rcases h21 with h4 | h4
      · exact h4 h5.2
      · have := (hro.lt b e1.symm).1; omega
    have hba : b ≠ ba := by
      intro e1
      obtain ⟨c2, h5⟩ := own_type ht.own (g := ba) rfl
      rw [← e1, hb] at h5
      simp at h5
      exact h34 h5.2
    rw [Below.heap_setCell _ ⟨ba, k, none⟩ _ _ hba]
    exact hg.block b (Array.getElem?_eq_some_iff.1 hb).1 hne
  · have := hg.size; simpa [World.setCell] using this
end

/-- .. by an append behind a box and a draw. -/
theorem NC.app {wx : World} {bcv bc bh br ba B0 B1 m N : Nat} {CC : Nat → Value} {hf : Nat → Nat} {rf : Nat → Int} {rows : List (List Nat)} (h : NC wx bcv bc bh br ba B0 B1 m N CC hf rf rows) {o : Obj} {w' : World} {vs : List Value} {k x : Nat} {v v' : Value} {r : List Nat} (ht : Tab wx B0 B1 (.slice (some ⟨ba, 0, none⟩) N N) N vs rows) (hv : vs[k]? = some v) (hr : rows[k]? = some r) (hk : k < N)
    (ho : w'.ownsRow B1 21 1 v' (r.length + 1) (ic r ++ [.int .i32 (x : Nat)])) (hg : (wx.alloc o).drew.grownBy w' v.ownBlock) (hfr : v'.ownBlock = v.ownBlock ∨ v'.ownBlock = some (wx.alloc o).drew.heap.size) :
    ∃ g c, v' = .slice (some ⟨g, 0, none⟩) (r.length + 1) c ∧ NC (w'.setCell ⟨ba, k, none⟩ v') bcv bc bh br ba B0 B1 m N CC hf rf (put rows k x) ∧ Fm bh br ba B1 wx (w'.setCell ⟨ba, k, none⟩ v') ∧ w'.cell? ⟨ba, k, none⟩ = some v ∧ (∀ j, w'.frozen? ⟨ba, j, none⟩ = false) ∧ w'.cell? ⟨bcv, 0, none⟩ = some (.pointer (some ⟨bc, 0, none⟩)) ∧ w'.cell? ⟨bc, 9, none⟩ = some (.slice (some ⟨ba, 0, none⟩) N N) := by
  obtain ⟨g, c, hs⟩ := row_some ho
  have hta := (ht.alloc o).drew
  have hro := hta.each k v r hv hr
  have P3 := ((h.alloc o).drewN 1).pushed hta hv hr ho hg hfr
  have own3 := hta.own.kept hg (own_ne hta.own hro (by decide))
  have hc := own3.cellAt k (by omega)
  rw [hv] at hc
  have hna := (h.alloc o).drewN 1
  have key : ∀ {b : Nat} {t : TypeId} {n : Nat} {f : Nat → Value}, ((wx.alloc o).drewN 1).rowIs b t n f → t ≠ 21 → some b ≠ v.ownBlock := by
    intro b t n f hb ht' e1
    obtain ⟨c1, h1⟩ := row_block hb
    obtain ⟨c2, h2⟩ := own_type hro e1.symm
    have h3 : some (Obj.cells c1 t (0, 0)) = some (Obj.cells c2 21 (0, 0)) := h1.symm.trans h2
    simp at h3
    exact ht' h3.2
  refine ⟨g, c, hs, P3.1, ((Fm.refl.alloc o).drew).trans P3.2, hc, own3.frozenAt, ?_, ?_⟩
  · exact hg.cell (hna.var.cell (i := 0) (by omega)) (key hna.var (by decide))
  · have h9 := hna.cc.cell (i := 9) (by omega)
    rw [hna.c9] at h9
    exact hg.cell h9 (key hna.cc (by decide))

section
variable {P : Program} {l : List Oper} {Q : Exit → Act → World → Prop} {md : Region.Mode} {S : World → Prop}
theorem take_list {i : Nat} {oi : Oper} {v : Value} {fuel : Nat} {listed : Array Bool} {a : Act} {w : World} (hi : l[i]? = some oi)
    (hs : Region.noSelect l.toArray = true) (hf : Region.free md l.toArray listed i = true) (hr : (Region.ready md l.toArray listed).contains i = true)
    (hQ : ∀ c a w, Q (.panic c) (a.put oi.dst v) w → Q (.panic c) a w) (hy : YieldsIf P l.toArray S oi v a) (hS : S w)
    (h : wpAnyH P md l.toArray Q S fuel (listed.setIfInBounds i true) (a.put oi.dst v) w) : wpAnyH P md l.toArray Q S (fuel + 1) listed a w :=
  wpAnyH_take (by simpa using hi) hs hf hr hQ hy hS h
theorem cons_list {fuel : Nat} {listed : Array Bool} {a : Act} {w : World} {i : Nat} {o : Oper} {rs : List Nat} (ho : l[i]? = some o)
    (h : ∀ K' : Act → World → Prop, Shut (∀ a w, S w → (S w → wpAnyH P md l.toArray Q S fuel (listed.setIfInBounds i true) a w) → K' a w) → if Region.wanted o (yielded l.toArray a.tmps) = true then Oper.wp P o a w K' Q else K' (a.put o.dst undef) w)
    (hs : AllReadyH P md l.toArray Q S fuel listed a w rs) : AllReadyH P md l.toArray Q S fuel listed a w (i :: rs) :=
  AllReadyH.cons (by simpa using ho) h hs
end

set_option maxHeartbeats 8000000 in
set_option maxRecDepth 100000 in
theorem pair (bcv bc bh br ba B0 B1 m N : Nat) (CC : Nat → Value) (hf : Nat → Nat) (rf : Nat → Int) (rows : List (List Nat)) (i u v : Nat) (x y : Int) (w : World) (h : NC w bcv bc bh br ba B0 B1 m N CC hf rf rows) (hi : i + 1 < 6 * m) (hu : u < N) (hv : v < N) (hm : m ≤ 1024) (hl : ∀ r ∈ rows, r.length ≤ 10000) :
    Calls Yba.prog 22 #[.int .i64 (i : Nat), .int .i32 (u : Nat), .int .i32 (v : Nat), .int .i64 x, .int .i64 y, .pointer (some ⟨bcv, 0, none⟩)] w fun e w' => e = .returned (.tuple #[]) ∧
      NC w' bcv bc bh br ba B0 B1 m N CC (updN (updN hf i v) (i + 1) u) (upd (upd rf i x) (i + 1) y) (put (put rows u i) v (i + 1)) ∧ Fm bh br ba B1 w w' := by
  obtain ⟨i21, hi21, hz210, hz211, hz212⟩ := info_parts info21
  have HN : Hid (NC w bcv bc bh br ba B0 B1 m N CC hf rf rows) := h
  have HL : Hid (∀ r ∈ rows, r.length ≤ 10000) := hl
  have hI1 : (i : Int) < ((6 * m : Nat) : Int) := by omega
  have hI2 : (i : Int) + 1 < ((6 * m : Nat) : Int) := by omega
  have hI3 : (u : Int) < (N : Int) := by omega
  have hI4 : (v : Int) < (N : Int) := by omega
  clear h hl
  go_enter Yba.func22, Yba.ntmps22
  go_upto_region 0 with fail
  go_cut [] (fun wx => NC wx bcv bc bh br ba B0 B1 m N CC (updN (updN hf i v) (i + 1) u) rf rows ∧ Fm bh br ba B1 w wx)
  case first =>
    have v0 := HN.out.var.cell (i := 0) (by omega)
    have k0 := HN.out.cc.cell (i := 0) (by omega)
    rw [HN.out.c0] at k0
    have h0 := HN.out.hh.cell (i := i) (by omega)
    have h1 := HN.out.hh.cell (i := i + 1) (by omega)
    have fz := HN.out.hh.frozen
    have HF : Hid (NC ((w.setCell ⟨bh, i, none⟩ (.int .i32 (v : Nat))).setCell ⟨bh, i + 1, none⟩ (.int .i32 (u : Nat))) bcv bc bh br ba B0 B1 m N CC (updN (updN hf i v) (i + 1) u) rf rows ∧ Fm bh br ba B1 w ((w.setCell ⟨bh, i, none⟩ (.int .i32 (v : Nat))).setCell ⟨bh, i + 1, none⟩ (.int .i32 (u : Nat)))) := ⟨(HN.out.setH i v).setH (i + 1) u, (Fm.refl.set (.inl rfl) _ _).set (.inl rfl) _ _⟩
    go_region
    all_goals
      go_wp2_with fail
      go_meet
      exact ⟨HF.out.1.drewN 1, HF.out.2.drew⟩
  case rest =>
    obtain ⟨hn1, hf1⟩ := hcut
    have HN1 : Hid (NC wc bcv bc bh br ba B0 B1 m N CC (updN (updN hf i v) (i + 1) u) rf rows) := hn1
    have HF1 : Hid (Fm bh br ba B1 w wc) := hf1
    clear hn1 hf1 HN
    obtain ⟨hf2, hhf⟩ : ∃ z, updN (updN hf i v) (i + 1) u = z := ⟨_, rfl⟩
    rw [hhf] at HN1
    have HHF : Hid (updN (updN hf i v) (i + 1) u = hf2) := hhf
    clear hhf
    rename World => w1
    go_upto_region 1 with fail
    go_cut [] (fun wx => NC wx bcv bc bh br ba B0 B1 m N CC hf2 (upd (upd rf i x) (i + 1) y) rows ∧ Fm bh br ba B1 w wx)
    case first =>
      have v0 := HN1.out.var.cell (i := 0) (by omega)
      have k0 := HN1.out.cc.cell (i := 2) (by omega)
      rw [HN1.out.c2] at k0
      have h0 := HN1.out.rr.cell (i := i) (by omega)
      have h1 := HN1.out.rr.cell (i := i + 1) (by omega)
      have fz := HN1.out.rr.frozen
      have HF : Hid (NC ((w1.setCell ⟨br, i, none⟩ (.int .i64 x)).setCell ⟨br, i + 1, none⟩ (.int .i64 y)) bcv bc bh br ba B0 B1 m N CC hf2 (upd (upd rf i x) (i + 1) y) rows ∧ Fm bh br ba B1 w ((w1.setCell ⟨br, i, none⟩ (.int .i64 x)).setCell ⟨br, i + 1, none⟩ (.int .i64 y))) := ⟨(HN1.out.setR i x).setR (i + 1) y, (HF1.out.set (.inr (.inl rfl)) _ _).set (.inr (.inl rfl)) _ _⟩
      go_region
      all_goals
        go_wp2_with fail
        go_meet
        exact ⟨HF.out.1.drewN 1, HF.out.2.drew⟩
    case rest =>
      obtain ⟨hn2, hf2'⟩ := hcut
      have HN2 : Hid (NC wc bcv bc bh br ba B0 B1 m N CC hf2 (upd (upd rf i x) (i + 1) y) rows) := hn2
      have HF2 : Hid (Fm bh br ba B1 w wc) := hf2'
      clear hn2 hf2' HN1 HF1
      obtain ⟨rf2, hrf⟩ : ∃ z, upd (upd rf i x) (i + 1) y = z := ⟨_, rfl⟩
      rw [hrf] at HN2
      have HRF : Hid (upd (upd rf i x) (i + 1) y = rf2) := hrf
      clear hrf
      rename World => w2
      go_upto_region 2 with fail
      go_cut [] (fun wx => NC wx bcv bc bh br ba B0 B1 m N CC hf2 rf2 (put rows u i) ∧ Fm bh br ba B1 w wx)
      case first =>
        have v0 := HN2.out.var.cell (i := 0) (by omega)
        have k9 := HN2.out.cc.cell (i := 9) (by omega)
        rw [HN2.out.c9] at k9
        obtain ⟨vs, ht⟩ := HN2.out.tab
        obtain ⟨rv, rt, hrv, hrt, hro⟩ : ∃ rv rt, vs[u]? = some rv ∧ rows[u]? = some rt ∧ w2.ownsRow B1 21 1 rv rt.length (ic rt) := by
          obtain ⟨v, h1, h2, h3⟩ := ht.at hu
          exact ⟨v, _, h1, h2, h3⟩
        have hcu := ht.own.cellAt u (by omega)
        rw [hrv] at hcu
        have fza := ht.own.frozenAt
        have hrl : rt.length ≤ 10000 := HL.out rt (List.mem_of_getElem? hrt)
        have y1 : IntKind.i32.wrap (i : Int) = (i : Int) := by rw [IntKind.wrap_i32]; omega
        have hsz2 := HN2.out.sz
        have q0 := alloc_cell v0
        have q9 := alloc_cell k9
        have qu := alloc_cell hcu
        refine wp_region_held_drew (S := fun w' => w'.cell? ⟨bcv, 0, none⟩ = some (.pointer (some ⟨bc, 0, none⟩)) ∧ w'.cell? ⟨bc, 9, none⟩ = some (.slice (some ⟨ba, 0, none⟩) N N)) (by kernel_rfl) ⟨v0, k9⟩ (fun hHeld => ?_)
        refine take_list (i := 0) (v := ?_) rfl (by kernel_rfl) (by kernel_rfl) (by kernel_rfl) (fun _ _ _ h => h) (Or.inl ⟨by rfl, ?_⟩) (by assumption) ?_
        rotate_left
        · (intro w hSw; (try dsimp only at hSw); go_simp; try with_reducible rfl)
        try simp only [Act.put, List.setIfInBounds_toArray, List.set_cons_zero, List.set_cons_succ]
        refine take_list (i := 1) (v := ?_) rfl (by kernel_rfl) (by kernel_rfl) (by kernel_rfl) (fun _ _ _ h => h) (Or.inl ⟨by rfl, ?_⟩) (by assumption) ?_
        rotate_left
        · (intro w hSw; (try dsimp only at hSw); go_simp; try with_reducible rfl)
        try simp only [Act.put, List.setIfInBounds_toArray, List.set_cons_zero, List.set_cons_succ]
        refine take_list (i := 2) (v := ?_) rfl (by kernel_rfl) (by kernel_rfl) (by kernel_rfl) (fun _ _ _ h => h) (Or.inl ⟨by rfl, ?_⟩) (by assumption) ?_
        rotate_left
        · (intro w hSw; (try dsimp only at hSw); go_simp; try with_reducible rfl)
        try simp only [Act.put, List.setIfInBounds_toArray, List.set_cons_zero, List.set_cons_succ]
        refine take_list (i := 3) (v := ?_) rfl (by kernel_rfl) (by kernel_rfl) (by kernel_rfl) (fun _ _ _ h => h) (Or.inl ⟨by rfl, ?_⟩) (by assumption) ?_
        rotate_left
        · (intro w hSw; (try dsimp only at hSw); go_simp; try with_reducible rfl)
        try simp only [Act.put, List.setIfInBounds_toArray, List.set_cons_zero, List.set_cons_succ]
        refine take_list (i := 4) (v := ?_) rfl (by kernel_rfl) (by kernel_rfl) (by kernel_rfl) (fun _ _ _ h => h) (Or.inl ⟨by rfl, ?_⟩) (by assumption) ?_
        rotate_left
        · (intro w hSw; (try dsimp only at hSw); go_simp; try with_reducible rfl)
        try simp only [Act.put, List.setIfInBounds_toArray, List.set_cons_zero, List.set_cons_succ]
        refine take_list (i := 5) (v := ?_) rfl (by kernel_rfl) (by kernel_rfl) (by kernel_rfl) (fun _ _ _ h => h) (Or.inl ⟨by rfl, ?_⟩) (by assumption) ?_
        rotate_left
        · (intro w hSw; (try dsimp only at hSw); go_simp; try with_reducible rfl)
        try simp only [Act.put, List.setIfInBounds_toArray, List.set_cons_zero, List.set_cons_succ]
        refine take_list (i := 6) (v := ?_) rfl (by kernel_rfl) (by kernel_rfl) (by kernel_rfl) (fun _ _ _ h => h) (Or.inl ⟨by rfl, ?_⟩) (by assumption) ?_
        rotate_left
        · (intro w hSw; (try dsimp only at hSw); go_simp; try with_reducible rfl)
        try simp only [Act.put, List.setIfInBounds_toArray, List.set_cons_zero, List.set_cons_succ]
        refine take_list (i := 7) (v := ?_) rfl (by kernel_rfl) (by kernel_rfl) (by kernel_rfl) (fun _ _ _ h => h) (Or.inl ⟨by rfl, ?_⟩) (by assumption) ?_
        rotate_left
        · (intro w hSw; (try dsimp only at hSw); go_simp; try with_reducible rfl)
        try simp only [Act.put, List.setIfInBounds_toArray, List.set_cons_zero, List.set_cons_succ]
        refine take_list (i := 8) (v := ?_) rfl (by kernel_rfl) (by kernel_rfl) (by kernel_rfl) (fun _ _ _ h => h) (Or.inl ⟨by rfl, ?_⟩) (by assumption) ?_
        rotate_left
        · (intro w hSw; (try dsimp only at hSw); go_simp; try with_reducible rfl)
        try simp only [Act.put, List.setIfInBounds_toArray, List.set_cons_zero, List.set_cons_succ]
        refine take_list (i := 9) (v := ?_) rfl (by kernel_rfl) (by kernel_rfl) (by kernel_rfl) (fun _ _ _ h => h) (Or.inl ⟨by rfl, ?_⟩) (by assumption) ?_
        rotate_left
        · (intro w hSw; (try dsimp only at hSw); go_simp; try with_reducible rfl)
        try simp only [Act.put, List.setIfInBounds_toArray, List.set_cons_zero, List.set_cons_succ]
        refine take_list (i := 10) (v := ?_) rfl (by kernel_rfl) (by kernel_rfl) (by kernel_rfl) (fun _ _ _ h => h) (Or.inl ⟨by rfl, ?_⟩) (by assumption) ?_
        rotate_left
        · (intro w hSw; (try dsimp only at hSw); go_simp; try with_reducible rfl)
        try simp only [Act.put, List.setIfInBounds_toArray, List.set_cons_zero, List.set_cons_succ]
        refine take_list (i := 12) (v := ?_) rfl (by kernel_rfl) (by kernel_rfl) (by kernel_rfl) (fun _ _ _ h => h) (Or.inl ⟨by rfl, ?_⟩) (by assumption) ?_
        rotate_left
        · (intro w hSw; (try dsimp only at hSw); go_simp; try with_reducible rfl)
        try simp only [Act.put, List.setIfInBounds_toArray, List.set_cons_zero, List.set_cons_succ]
        refine take_list (i := 13) (v := ?_) rfl (by kernel_rfl) (by kernel_rfl) (by kernel_rfl) (fun _ _ _ h => h) (Or.inl ⟨by rfl, ?_⟩) (by assumption) ?_
        rotate_left
        · (intro w hSw; (try dsimp only at hSw); go_simp; try with_reducible rfl)
        try simp only [Act.put, List.setIfInBounds_toArray, List.set_cons_zero, List.set_cons_succ]
        refine wpAnyH_ready (rs := [11, 14]) (by kernel_rfl) (by simp) ?_
        refine cons_list rfl (fun K hK => ?_) (cons_list rfl (fun K hK => ?_) AllReadyH.nil)
        · skip
          go_simp
          refine hK.out _ _ ⟨v0, k9⟩ (fun hHeld => ?_)
          clear hK K
          try simp only [Act.put, List.setIfInBounds_toArray, List.set_cons_zero, List.set_cons_succ]
          refine wpAnyH_ready (rs := [14]) (by kernel_rfl) (by simp) ?_
          refine cons_list rfl (fun K hK => ?_) AllReadyH.nil
          go_simp
          refine hK.out _ _ ⟨q0 _, q9 _⟩ (fun hHeld => ?_)
          clear hK K
          try simp only [Act.put, List.setIfInBounds_toArray, List.set_cons_zero, List.set_cons_succ]
          refine wpAnyH_ready (rs := [15]) (by kernel_rfl) (by simp) ?_
          refine cons_list rfl (fun K hK => ?_) AllReadyH.nil
          refine step_append_one _ rfl (.tmp 56) (.tmp 59) 34 rfl B1 21 i21 (.int .i32 0) 4 Yba.underlying34 hi21 hz210 hz211 hz212 rfl rv rt.length (ic rt) rfl (hro.alloc _) _ _ (.int .i32 (i : Nat)) rfl (by simp) rfl (by unfold maxLen; omega) (by omega) (by simp; omega) ?_; intro v3 w3 ho3 hg3 hfr3; obtain ⟨g3, c3, rfl, P1, PF, hc3, fz3, hv3, hk3⟩ := HN2.out.app ht hrv hrt hu ho3 hg3 hfr3
          refine hK.out _ _ ⟨hv3, hk3⟩ (fun hHeld => ?_)
          clear hK K
          try simp only [Act.put, List.setIfInBounds_toArray, List.set_cons_zero, List.set_cons_succ]
          refine take_list (i := 16) (v := ?_) rfl (by kernel_rfl) (by kernel_rfl) (by kernel_rfl) (fun _ _ _ h => h) (Or.inl ⟨by rfl, ?_⟩) (by assumption) ?_
          rotate_left
          · (intro w hSw; (try dsimp only at hSw); go_simp; try with_reducible rfl)
          try simp only [Act.put, List.setIfInBounds_toArray, List.set_cons_zero, List.set_cons_succ]
          refine wpAnyH_ready (rs := [17]) (by kernel_rfl) (by simp) ?_
          refine cons_list rfl (fun K hK => ?_) AllReadyH.nil
          go_simp
          refine hK.out _ _ ⟨P1.var.cell (i := 0) (by omega), P1.k9⟩ (fun hHeld => ?_)
          clear hK K
          try simp only [Act.put, List.setIfInBounds_toArray, List.set_cons_zero, List.set_cons_succ]
          refine wpAnyH_done (by kernel_rfl) ?_ _
          go_wp2_with fail
          go_meet
          exact ⟨P1, HF2.out.trans PF⟩
        · skip
          go_simp
          refine hK.out _ _ ⟨q0 _, q9 _⟩ (fun hHeld => ?_)
          clear hK K
          try simp only [Act.put, List.setIfInBounds_toArray, List.set_cons_zero, List.set_cons_succ]
          refine wpAnyH_ready (rs := [11]) (by kernel_rfl) (by simp) ?_
          refine cons_list rfl (fun K hK => ?_) AllReadyH.nil
          go_simp
          refine hK.out _ _ ⟨q0 _, q9 _⟩ (fun hHeld => ?_)
          clear hK K
          try simp only [Act.put, List.setIfInBounds_toArray, List.set_cons_zero, List.set_cons_succ]
          refine wpAnyH_ready (rs := [15]) (by kernel_rfl) (by simp) ?_
          refine cons_list rfl (fun K hK => ?_) AllReadyH.nil
          refine step_append_one _ rfl (.tmp 56) (.tmp 59) 34 rfl B1 21 i21 (.int .i32 0) 4 Yba.underlying34 hi21 hz210 hz211 hz212 rfl rv rt.length (ic rt) rfl (hro.alloc _) _ _ (.int .i32 (i : Nat)) rfl (by simp) rfl (by unfold maxLen; omega) (by omega) (by simp; omega) ?_; intro v3 w3 ho3 hg3 hfr3; obtain ⟨g3, c3, rfl, P1, PF, hc3, fz3, hv3, hk3⟩ := HN2.out.app ht hrv hrt hu ho3 hg3 hfr3
          refine hK.out _ _ ⟨hv3, hk3⟩ (fun hHeld => ?_)
          clear hK K
          try simp only [Act.put, List.setIfInBounds_toArray, List.set_cons_zero, List.set_cons_succ]
          refine take_list (i := 16) (v := ?_) rfl (by kernel_rfl) (by kernel_rfl) (by kernel_rfl) (fun _ _ _ h => h) (Or.inl ⟨by rfl, ?_⟩) (by assumption) ?_
          rotate_left
          · (intro w hSw; (try dsimp only at hSw); go_simp; try with_reducible rfl)
          try simp only [Act.put, List.setIfInBounds_toArray, List.set_cons_zero, List.set_cons_succ]
          refine wpAnyH_ready (rs := [17]) (by kernel_rfl) (by simp) ?_
          refine cons_list rfl (fun K hK => ?_) AllReadyH.nil
          go_simp
          refine hK.out _ _ ⟨P1.var.cell (i := 0) (by omega), P1.k9⟩ (fun hHeld => ?_)
          clear hK K
          try simp only [Act.put, List.setIfInBounds_toArray, List.set_cons_zero, List.set_cons_succ]
          refine wpAnyH_done (by kernel_rfl) ?_ _
          go_wp2_with fail
          go_meet
          exact ⟨P1, HF2.out.trans PF⟩
      case rest =>
        obtain ⟨hn3, hf3⟩ := hcut
        have HN3 : Hid (NC wc bcv bc bh br ba B0 B1 m N CC hf2 rf2 (put rows u i)) := hn3
        have HF3 : Hid (Fm bh br ba B1 w wc) := hf3
        have HL2 : Hid (∀ r ∈ put rows u i, r.length ≤ 10001) := by
          intro r hr
          unfold put at hr
          rcases List.mem_or_eq_of_mem_set hr with h2 | h2
          · have := HL.out r h2; omega
          · subst h2
            rw [List.length_append]
            by_cases hul : u < rows.length
            · have hg : rows.getD u [] ∈ rows := by
                rw [List.getD_eq_getElem?_getD, List.getElem?_eq_getElem hul]
                exact List.getElem_mem _
              have := HL.out _ hg
              simp at this ⊢
              omega
            · have e : rows.getD u [] = [] := by rw [List.getD_eq_getElem?_getD, List.getElem?_eq_none (by omega)]; rfl
              rw [e]; simp
        clear hn3 hf3 HN2 HF2 HL
        obtain ⟨rows2, hr2e⟩ : ∃ z, put rows u i = z := ⟨_, rfl⟩
        rw [hr2e] at HN3 HL2
        have HRW : Hid (put rows u i = rows2) := hr2e
        clear hr2e
        rename World => w4
        go_upto_region 3 with fail
        have v0 := HN3.out.var.cell (i := 0) (by omega)
        have k9 := HN3.out.cc.cell (i := 9) (by omega)
        rw [HN3.out.c9] at k9
        obtain ⟨vs, ht⟩ := HN3.out.tab
        obtain ⟨rv, rt, hrv, hrt, hro⟩ : ∃ rv rt, vs[v]? = some rv ∧ rows2[v]? = some rt ∧ w4.ownsRow B1 21 1 rv rt.length (ic rt) := by
          obtain ⟨v', h1, h2, h3⟩ := ht.at hv
          exact ⟨v', _, h1, h2, h3⟩
        have hcu := ht.own.cellAt v (by omega)
        rw [hrv] at hcu
        have fza := ht.own.frozenAt
        have hrl : rt.length ≤ 10001 := HL2.out rt (List.mem_of_getElem? hrt)
        have y1 : IntKind.i32.wrap ((i : Int) + 1) = (i : Int) + 1 := by rw [IntKind.wrap_i32]; omega
        have y2 : IntKind.i64.wrap ((i : Int) + 1) = (i : Int) + 1 := IntWalk.i64_in _ (by omega)
        have hsz2 := HN3.out.sz
        have q0 := alloc_cell v0
        have q9 := alloc_cell k9
        have qu := alloc_cell hcu
        refine wp_region_held_drew (S := fun w' => w'.cell? ⟨bcv, 0, none⟩ = some (.pointer (some ⟨bc, 0, none⟩)) ∧ w'.cell? ⟨bc, 9, none⟩ = some (.slice (some ⟨ba, 0, none⟩) N N)) (by kernel_rfl) ⟨v0, k9⟩ (fun hHeld => ?_)
        refine take_list (i := 0) (v := ?_) rfl (by kernel_rfl) (by kernel_rfl) (by kernel_rfl) (fun _ _ _ h => h) (Or.inl ⟨by rfl, ?_⟩) (by assumption) ?_
        rotate_left
        · (intro w hSw; (try dsimp only at hSw); go_simp; try with_reducible rfl)
        try simp only [Act.put, List.setIfInBounds_toArray, List.set_cons_zero, List.set_cons_succ]
        refine take_list (i := 1) (v := ?_) rfl (by kernel_rfl) (by kernel_rfl) (by kernel_rfl) (fun _ _ _ h => h) (Or.inl ⟨by rfl, ?_⟩) (by assumption) ?_
        rotate_left
        · (intro w hSw; (try dsimp only at hSw); go_simp; try with_reducible rfl)
        try simp only [Act.put, List.setIfInBounds_toArray, List.set_cons_zero, List.set_cons_succ]
        refine take_list (i := 2) (v := ?_) rfl (by kernel_rfl) (by kernel_rfl) (by kernel_rfl) (fun _ _ _ h => h) (Or.inl ⟨by rfl, ?_⟩) (by assumption) ?_
        rotate_left
        · (intro w hSw; (try dsimp only at hSw); go_simp; try with_reducible rfl)
        try simp only [Act.put, List.setIfInBounds_toArray, List.set_cons_zero, List.set_cons_succ]
        refine take_list (i := 3) (v := ?_) rfl (by kernel_rfl) (by kernel_rfl) (by kernel_rfl) (fun _ _ _ h => h) (Or.inl ⟨by rfl, ?_⟩) (by assumption) ?_
        rotate_left
        · (intro w hSw; (try dsimp only at hSw); go_simp; try with_reducible rfl)
        try simp only [Act.put, List.setIfInBounds_toArray, List.set_cons_zero, List.set_cons_succ]
        refine take_list (i := 4) (v := ?_) rfl (by kernel_rfl) (by kernel_rfl) (by kernel_rfl) (fun _ _ _ h => h) (Or.inl ⟨by rfl, ?_⟩) (by assumption) ?_
        rotate_left
        · (intro w hSw; (try dsimp only at hSw); go_simp; try with_reducible rfl)
        try simp only [Act.put, List.setIfInBounds_toArray, List.set_cons_zero, List.set_cons_succ]
        refine take_list (i := 5) (v := ?_) rfl (by kernel_rfl) (by kernel_rfl) (by kernel_rfl) (fun _ _ _ h => h) (Or.inl ⟨by rfl, ?_⟩) (by assumption) ?_
        rotate_left
        · (intro w hSw; (try dsimp only at hSw); go_simp; try with_reducible rfl)
        try simp only [Act.put, List.setIfInBounds_toArray, List.set_cons_zero, List.set_cons_succ]
        refine take_list (i := 6) (v := ?_) rfl (by kernel_rfl) (by kernel_rfl) (by kernel_rfl) (fun _ _ _ h => h) (Or.inl ⟨by rfl, ?_⟩) (by assumption) ?_
        rotate_left
        · (intro w hSw; (try dsimp only at hSw); go_simp; try with_reducible rfl)
        try simp only [Act.put, List.setIfInBounds_toArray, List.set_cons_zero, List.set_cons_succ]
        refine take_list (i := 7) (v := ?_) rfl (by kernel_rfl) (by kernel_rfl) (by kernel_rfl) (fun _ _ _ h => h) (Or.inl ⟨by rfl, ?_⟩) (by assumption) ?_
        rotate_left
        · (intro w hSw; (try dsimp only at hSw); go_simp; try with_reducible rfl)
        try simp only [Act.put, List.setIfInBounds_toArray, List.set_cons_zero, List.set_cons_succ]
        refine take_list (i := 8) (v := ?_) rfl (by kernel_rfl) (by kernel_rfl) (by kernel_rfl) (fun _ _ _ h => h) (Or.inl ⟨by rfl, ?_⟩) (by assumption) ?_
        rotate_left
        · (intro w hSw; (try dsimp only at hSw); go_simp; try with_reducible rfl)
        try simp only [Act.put, List.setIfInBounds_toArray, List.set_cons_zero, List.set_cons_succ]
        refine take_list (i := 9) (v := ?_) rfl (by kernel_rfl) (by kernel_rfl) (by kernel_rfl) (fun _ _ _ h => h) (Or.inl ⟨by rfl, ?_⟩) (by assumption) ?_
        rotate_left
        · (intro w hSw; (try dsimp only at hSw); go_simp; try with_reducible rfl)
        try simp only [Act.put, List.setIfInBounds_toArray, List.set_cons_zero, List.set_cons_succ]
        refine take_list (i := 10) (v := ?_) rfl (by kernel_rfl) (by kernel_rfl) (by kernel_rfl) (fun _ _ _ h => h) (Or.inl ⟨by rfl, ?_⟩) (by assumption) ?_
        rotate_left
        · (intro w hSw; (try dsimp only at hSw); go_simp; try with_reducible rfl)
        try simp only [Act.put, List.setIfInBounds_toArray, List.set_cons_zero, List.set_cons_succ]
        refine take_list (i := 12) (v := ?_) rfl (by kernel_rfl) (by kernel_rfl) (by kernel_rfl) (fun _ _ _ h => h) (Or.inl ⟨by rfl, ?_⟩) (by assumption) ?_
        rotate_left
        · (intro w hSw; (try dsimp only at hSw); go_simp; try with_reducible rfl)
        try simp only [Act.put, List.setIfInBounds_toArray, List.set_cons_zero, List.set_cons_succ]
        refine take_list (i := 13) (v := ?_) rfl (by kernel_rfl) (by kernel_rfl) (by kernel_rfl) (fun _ _ _ h => h) (Or.inl ⟨by rfl, ?_⟩) (by assumption) ?_
        rotate_left
        · (intro w hSw; (try dsimp only at hSw); go_simp; try with_reducible rfl)
        try simp only [Act.put, List.setIfInBounds_toArray, List.set_cons_zero, List.set_cons_succ]
        refine take_list (i := 14) (v := ?_) rfl (by kernel_rfl) (by kernel_rfl) (by kernel_rfl) (fun _ _ _ h => h) (Or.inl ⟨by rfl, ?_⟩) (by assumption) ?_
        rotate_left
        · (intro w hSw; (try dsimp only at hSw); go_simp; try with_reducible rfl)
        try simp only [Act.put, List.setIfInBounds_toArray, List.set_cons_zero, List.set_cons_succ]
        refine wpAnyH_ready (rs := [11, 15]) (by kernel_rfl) (by simp) ?_
        refine cons_list rfl (fun K hK => ?_) (cons_list rfl (fun K hK => ?_) AllReadyH.nil)
        · skip
          go_simp
          refine hK.out _ _ ⟨v0, k9⟩ (fun hHeld => ?_)
          clear hK K
          try simp only [Act.put, List.setIfInBounds_toArray, List.set_cons_zero, List.set_cons_succ]
          refine wpAnyH_ready (rs := [15]) (by kernel_rfl) (by simp) ?_
          refine cons_list rfl (fun K hK => ?_) AllReadyH.nil
          go_simp
          refine hK.out _ _ ⟨q0 _, q9 _⟩ (fun hHeld => ?_)
          clear hK K
          try simp only [Act.put, List.setIfInBounds_toArray, List.set_cons_zero, List.set_cons_succ]
          refine wpAnyH_ready (rs := [16]) (by kernel_rfl) (by simp) ?_
          refine cons_list rfl (fun K hK => ?_) AllReadyH.nil
          refine step_append_one _ rfl (.tmp 73) (.tmp 77) 34 rfl B1 21 i21 (.int .i32 0) 4 Yba.underlying34 hi21 hz210 hz211 hz212 rfl rv rt.length (ic rt) rfl (hro.alloc _) _ _ (.int .i32 ((i + 1 : Nat) : Int)) rfl (by simp) rfl (by unfold maxLen; omega) (by omega) (by simp; omega) ?_; intro v3 w3 ho3 hg3 hfr3; obtain ⟨g3, c3, rfl, P1, PF, hc3, fz3, hv3, hk3⟩ := HN3.out.app ht hrv hrt hv ho3 hg3 hfr3
          refine hK.out _ _ ⟨hv3, hk3⟩ (fun hHeld => ?_)
          clear hK K
          try simp only [Act.put, List.setIfInBounds_toArray, List.set_cons_zero, List.set_cons_succ]
          refine take_list (i := 17) (v := ?_) rfl (by kernel_rfl) (by kernel_rfl) (by kernel_rfl) (fun _ _ _ h => h) (Or.inl ⟨by rfl, ?_⟩) (by assumption) ?_
          rotate_left
          · (intro w hSw; (try dsimp only at hSw); go_simp; try with_reducible rfl)
          try simp only [Act.put, List.setIfInBounds_toArray, List.set_cons_zero, List.set_cons_succ]
          refine wpAnyH_ready (rs := [18]) (by kernel_rfl) (by simp) ?_
          refine cons_list rfl (fun K hK => ?_) AllReadyH.nil
          go_simp
          refine hK.out _ _ ⟨P1.var.cell (i := 0) (by omega), P1.k9⟩ (fun hHeld => ?_)
          clear hK K
          try simp only [Act.put, List.setIfInBounds_toArray, List.set_cons_zero, List.set_cons_succ]
          refine wpAnyH_done (by kernel_rfl) ?_ _
          go_wp2
          go_end0
          exact ⟨rfl, by rw [HHF.out, HRF.out, HRW.out]; exact P1, HF3.out.trans PF⟩
        · skip
          go_simp
          refine hK.out _ _ ⟨q0 _, q9 _⟩ (fun hHeld => ?_)
          clear hK K
          try simp only [Act.put, List.setIfInBounds_toArray, List.set_cons_zero, List.set_cons_succ]
          refine wpAnyH_ready (rs := [11]) (by kernel_rfl) (by simp) ?_
          refine cons_list rfl (fun K hK => ?_) AllReadyH.nil
          go_simp
          refine hK.out _ _ ⟨q0 _, q9 _⟩ (fun hHeld => ?_)
          clear hK K
          try simp only [Act.put, List.setIfInBounds_toArray, List.set_cons_zero, List.set_cons_succ]
          refine wpAnyH_ready (rs := [16]) (by kernel_rfl) (by simp) ?_
          refine cons_list rfl (fun K hK => ?_) AllReadyH.nil
          refine step_append_one _ rfl (.tmp 73) (.tmp 77) 34 rfl B1 21 i21 (.int .i32 0) 4 Yba.underlying34 hi21 hz210 hz211 hz212 rfl rv rt.length (ic rt) rfl (hro.alloc _) _ _ (.int .i32 ((i + 1 : Nat) : Int)) rfl (by simp) rfl (by unfold maxLen; omega) (by omega) (by simp; omega) ?_; intro v3 w3 ho3 hg3 hfr3; obtain ⟨g3, c3, rfl, P1, PF, hc3, fz3, hv3, hk3⟩ := HN3.out.app ht hrv hrt hv ho3 hg3 hfr3
          refine hK.out _ _ ⟨hv3, hk3⟩ (fun hHeld => ?_)
          clear hK K
          try simp only [Act.put, List.setIfInBounds_toArray, List.set_cons_zero, List.set_cons_succ]
          refine take_list (i := 17) (v := ?_) rfl (by kernel_rfl) (by kernel_rfl) (by kernel_rfl) (fun _ _ _ h => h) (Or.inl ⟨by rfl, ?_⟩) (by assumption) ?_
          rotate_left
          · (intro w hSw; (try dsimp only at hSw); go_simp; try with_reducible rfl)
          try simp only [Act.put, List.setIfInBounds_toArray, List.set_cons_zero, List.set_cons_succ]
          refine wpAnyH_ready (rs := [18]) (by kernel_rfl) (by simp) ?_
          refine cons_list rfl (fun K hK => ?_) AllReadyH.nil
          go_simp
          refine hK.out _ _ ⟨P1.var.cell (i := 0) (by omega), P1.k9⟩ (fun hHeld => ?_)
          clear hK K
          try simp only [Act.put, List.setIfInBounds_toArray, List.set_cons_zero, List.set_cons_succ]
          refine wpAnyH_done (by kernel_rfl) ?_ _
          go_wp2
          go_end0
          exact ⟨rfl, by rw [HHF.out, HRF.out, HRW.out]; exact P1, HF3.out.trans PF⟩
end Go.Proofs.Ybulkcmrw.W
