/-
  newClearing: the states.
-/
import Derived.Test.YbulkcmrwNames
import Derived.Test.YbulkcmrwMake
import Derived.Test.YbulkcmrwArcs
namespace Go.Proofs.Ybulkcmrw.W
open Go Go.RowKit Go.Proofs.Ybulkcmrw.Mem Go.Proofs.Ybulkcmrw.G Go.Proofs.Ybulkcmrw.Inv

/-- The debts, the variable of the names, and the names, as they lie. -/
structure Pre (w wx : World) (g1 bn : Nat) (l : List Debt) (ks : List (List UInt8)) (nv : Value) : Prop where
  bel : Below w.heap.size w wx
  deb : ∀ j (h : j < l.length), LiesD wx g1 l[j] j
  dty : ∃ cur, wx.heap[g1]? = some (.cells cur 29 (0, 0))
  var : wx.rowIs bn 38 1 (fun _ => nv)
  own : wx.ownsRow w.heap.size 9 1 nv ks.length (ks2 ks)
  gge : w.heap.size ≤ g1
  bge : w.heap.size ≤ bn

section
variable {w wx w' : World} {g1 bn : Nat} {l : List Debt} {ks ks' : List (List UInt8)} {nv v' : Value}

theorem own_block {w w' : World} {B : Nat} {e : TypeId} {s : Nat} {v : Value} {n : Nat} {xs : List Value} (h : w.ownsRow B e s v n xs) (hk : ∀ (b : Nat) (cur : Array Value), w.heap[b]? = some (.cells cur e (0, 0)) → w'.heap[b]? = w.heap[b]?) : w'.ownsRow B e s v n xs := by
  rcases h.2 with h0 | ⟨g, cap, cur, hv, hbg, hgg, hrest⟩
  · exact ⟨h.1, .inl h0⟩
  · exact ⟨h.1, .inr ⟨g, cap, cur, hv, hbg, (hk g cur hgg).trans hgg, hrest⟩⟩

theorem LiesD.of_block {g j : Nat} {x : Debt} (h : LiesD wx g x j) (e : w'.heap[g]? = wx.heap[g]?) : LiesD w' g x j :=
  ⟨(World.cell?_of_block (w := wx) e).trans h.c0, (World.cell?_of_block (w := wx) e).trans h.c1, (World.cell?_of_block (w := wx) e).trans h.c2⟩

theorem Pre.keep (h : Pre w wx g1 bn l ks nv) (hb : Below w.heap.size w w') (hk : ∀ (b : Nat) (cur : Array Value) (t : TypeId), wx.heap[b]? = some (.cells cur t (0, 0)) → (t = 29 ∨ t = 38 ∨ t = 9) → w'.heap[b]? = wx.heap[b]?) : Pre w w' g1 bn l ks nv := by
  obtain ⟨cur, hd⟩ := h.dty
  obtain ⟨cv, hv⟩ := row_block h.var
  have e1 := hk g1 cur 29 hd (.inl rfl)
  have e2 := hk bn cv 38 hv (.inr (.inl rfl))
  exact ⟨hb, fun j hj => (h.deb j hj).of_block e1, ⟨cur, e1.trans hd⟩, h.var.of_block e2, own_block h.own (fun b c hbc => hk b c 9 hbc (.inr (.inr rfl))), h.gge, h.bge⟩

theorem Pre.alloc (h : Pre w wx g1 bn l ks nv) (o : Obj) : Pre w (wx.alloc o) g1 bn l ks nv :=
  h.keep (h.bel.alloc h.bel.size o) (fun _ _ _ hb _ => Below.heap_alloc _ _ _ (Array.getElem?_eq_some_iff.1 hb).1)
theorem Pre.drewN (h : Pre w wx g1 bn l ks nv) (k : Nat) : Pre w (wx.drewN k) g1 bn l ks nv :=
  ⟨⟨h.bel.os, h.bel.tape, h.bel.output, h.bel.size, h.bel.block⟩, fun j hj => ⟨(h.deb j hj).c0, (h.deb j hj).c1, (h.deb j hj).c2⟩, h.dty, h.var, h.own, h.gge, h.bge⟩

/-- The names' row has grown or turned. -/
theorem Pre.regrown (h : Pre w wx g1 bn l ks nv) (hg : wx.grownBy w' nv.ownBlock) : Below w.heap.size w w' ∧ (∀ j (h : j < l.length), LiesD w' g1 l[j] j) ∧ (∃ cur, w'.heap[g1]? = some (.cells cur 29 (0, 0))) ∧ w'.rowIs bn 38 1 (fun _ => nv) := by
  have key : ∀ {b t : Nat} {cur : Array Value}, wx.heap[b]? = some (.cells cur t (0, 0)) → t ≠ 9 → w'.heap[b]? = wx.heap[b]? := by
    intro b t cur hb ht
    refine hg.block b (Array.getElem?_eq_some_iff.1 hb).1 (fun e => ?_)
    obtain ⟨c2, h2⟩ := own_type h.own e.symm
    rw [hb] at h2
    simp at h2
    exact ht h2.2
  obtain ⟨cur, hd⟩ := h.dty
  obtain ⟨cv, hv⟩ := row_block h.var
  have e1 := key hd (by decide)
  have e2 := key hv (by decide)
  exact ⟨h.bel.grown hg h.bel.size (fun k hk => (h.own.lt k hk).1), fun j hj => (h.deb j hj).of_block e1, ⟨cur, e1.trans hd⟩, h.var.of_block e2⟩

theorem Pre.turned (h : Pre w wx g1 bn l ks nv) (hg : wx.grownBy w' nv.ownBlock) (ho : w'.ownsRow w.heap.size 9 1 nv ks'.length (ks2 ks')) : Pre w w' g1 bn l ks' nv := by
  obtain ⟨h1, h2, h3, h4⟩ := h.regrown hg
  exact ⟨h1, h2, h3, h4, ho, h.gge, h.bge⟩

theorem Pre.stored (h : Pre w wx g1 bn l ks nv) (hg : wx.grownBy w' nv.ownBlock) (ho : w'.ownsRow w.heap.size 9 1 v' ks'.length (ks2 ks')) : w'.cell? ⟨bn, 0, none⟩ = some nv ∧ w'.frozen? ⟨bn, 0, none⟩ = false ∧ Pre w (w'.setCell ⟨bn, 0, none⟩ v') g1 bn l ks' v' := by
  obtain ⟨h1, h2, ⟨cur, h3⟩, h4⟩ := h.regrown hg
  obtain ⟨cv, hv⟩ := row_block h4
  have ne : ∀ {b t : Nat} {c : Array Value}, w'.heap[b]? = some (.cells c t (0, 0)) → t ≠ 38 → b ≠ bn := by
    intro b t c hb ht e
    subst e
    rw [hb] at hv
    simp at hv
    exact ht hv.2
  have st : ∀ {b t : Nat} {c : Array Value}, w'.heap[b]? = some (.cells c t (0, 0)) → t ≠ 38 → (w'.setCell ⟨bn, 0, none⟩ v').heap[b]? = w'.heap[b]? := fun hb ht => Below.heap_setCell _ ⟨bn, 0, none⟩ _ _ (ne hb ht)
  refine ⟨h4.cell (by omega), h4.frozen 0, h1.setCell (p := ⟨bn, 0, none⟩) h.bge _, fun j hj => (h2 j hj).of_block (st h3 (by decide)), ⟨cur, (st h3 (by decide)).trans h3⟩, (h4.set 0 v').congr (fun j hj => by simp [show j = 0 from by omega]), own_block ho (fun b c hb => st hb (by decide)), h.gge, h.bge⟩
end

theorem new2 (w : World) (t : TypeId) (x y : Value) : ∀ j u, [x, y][j]? = some u → (w.alloc (.cells #[x, y] t)).cell? ((⟨w.heap.size, 0, none⟩ : Addr).add j) = some u := by
  intro j u hj
  match j, hj with
  | 0, hj => simp at hj; subst hj; simp [Addr.add]
  | 1, hj => simp at hj; subst hj; simp [Addr.add]

theorem info9 : (Yba.prog.info? 9).map (fun i => (i.zero, i.size, i.bytes)) = some (some (.string ⟨#[]⟩), 1, 16) := by kernel_rfl

/-- The debt's debtor, creditor (their numbers) and amount. -/
def uOf (l : List Debt) (ks : List (List UInt8)) (j : Nat) : Nat := ks.idxOf (l.getD j ([], [], 0)).1
def vOf (l : List Debt) (ks : List (List UInt8)) (j : Nat) : Nat := ks.idxOf (l.getD j ([], [], 0)).2.1
def aOf (l : List Debt) (j : Nat) : Int := (l.getD j ([], [], 0)).2.2

/-- What does not turn while the arcs are laid. -/
structure Kon (w : World) (bh bq bf bp B1 m n c1 g1 : Nat) (CC : Nat → Value) : Prop where
  qlt : bq < B1
  hq : bh ≠ bq
  gq : w.heap.size ≤ bq
  gf : w.heap.size ≤ bf
  c4 : CC 4 = .slice (some ⟨g1, 0, none⟩) m c1
  c5 : CC 5 = .slice (some ⟨bq, 0, none⟩) m m
  c6 : CC 6 = .int .i32 (n : Nat)
  c7 : CC 7 = .int .i32 ((n + 1 : Nat) : Int)
  c8 : CC 8 = .slice (some ⟨bf, 0, none⟩) (n + 1) (n + 1)
  c10 : CC 10 = .slice (some ⟨bp, 0, none⟩) (n + 2) (n + 2)

/-- The states while the arcs are laid. -/
structure Sx (w : World) (g1 bn : Nat) (l : List Debt) (ks : List (List UInt8)) (nv : Value) (bcv bc bh br bq bf ba bp B1 m n : Nat) (CC : Nat → Value) (hf : Nat → Nat) (rf : Nat → Int) (rows : List (List Nat)) (wx : World) : Prop where
  pre : Pre w wx g1 bn l ks nv
  nc : NC wx bcv bc bh br ba w.heap.size B1 m (n + 2) CC hf rf rows
  qq : ∃ qf : Nat → Nat, wx.rowIs bq 21 m (fun i => .int .i32 (qf i : Nat))
  ff : ∃ ff : Nat → Int, wx.rowIs bf 3 (n + 1) (fun i => .int .i64 (ff i))
  pp : wx.rowIs bp 2 (n + 2) (fun _ => .int .i64 0)
  hge : w.heap.size ≤ bh
  rge : w.heap.size ≤ br
  age : w.heap.size ≤ ba
  b1 : w.heap.size ≤ B1
/-- .. k debts laid. -/
def St (w : World) (g1 bn : Nat) (l : List Debt) (ks : List (List UInt8)) (nv : Value) (bcv bc bh br bq bf ba bp B1 m n : Nat) (CC : Nat → Value) (k : Nat) (wx : World) : Prop :=
  ∃ hf rf rows, Arcs n m (uOf l ks) (vOf l ks) (aOf l) k hf rf rows ∧ Sx w g1 bn l ks nv bcv bc bh br bq bf ba bp B1 m n CC hf rf rows wx

section
variable {w wx w' : World} {g1 bn : Nat} {l : List Debt} {ks : List (List UInt8)} {nv : Value} {bcv bc bh br bq bf ba bp B1 m n c1 : Nat} {CC : Nat → Value} {hf hf' : Nat → Nat} {rf rf' : Nat → Int} {rows rows' : List (List Nat)}

theorem Sx.alloc (h : Sx w g1 bn l ks nv bcv bc bh br bq bf ba bp B1 m n CC hf rf rows wx) (o : Obj) : Sx w g1 bn l ks nv bcv bc bh br bq bf ba bp B1 m n CC hf rf rows (wx.alloc o) := by
  obtain ⟨qf, hq⟩ := h.qq
  obtain ⟨f, hf⟩ := h.ff
  exact ⟨h.pre.alloc o, h.nc.alloc o, ⟨qf, hq.alloc o⟩, ⟨f, hf.alloc o⟩, h.pp.alloc o, h.hge, h.rge, h.age, h.b1⟩
theorem Sx.drewN (h : Sx w g1 bn l ks nv bcv bc bh br bq bf ba bp B1 m n CC hf rf rows wx) (k : Nat) : Sx w g1 bn l ks nv bcv bc bh br bq bf ba bp B1 m n CC hf rf rows (wx.drewN k) :=
  ⟨h.pre.drewN k, h.nc.drewN k, h.qq, h.ff, h.pp, h.hge, h.rge, h.age, h.b1⟩

theorem NC.setOther {B0 N : Nat} (h : NC wx bcv bc bh br ba B0 B1 m N CC hf rf rows) {b : Nat} {cur : Array Value} {t : TypeId} (hb : wx.heap[b]? = some (.cells cur t (0, 0))) (ht : t ≠ 30 ∧ t ≠ 42 ∧ t ≠ 27 ∧ t ≠ 34) (h21 : t ≠ 21 ∨ (b < B1 ∧ b ≠ bh)) (o : Nat) (v : Value) : NC (wx.setCell ⟨b, o, none⟩ v) bcv bc bh br ba B0 B1 m N CC hf rf rows := by
  have ne : ∀ {b' : Nat} {t' : TypeId} {k : Nat} {f : Nat → Value}, wx.rowIs b' t' k f → t' ≠ t → b' ≠ b := by
    intro b' t' k f hr hn e
    subst e
    obtain ⟨c, hc⟩ := row_block hr
    rw [hc] at hb
    simp at hb
    exact hn hb.2
  obtain ⟨vs, htab⟩ := h.tab
  refine ⟨h.var.setOther (a := ⟨b, o, none⟩) (ne h.var (Ne.symm ht.1)) _, h.cc.setOther (a := ⟨b, o, none⟩) (ne h.cc (Ne.symm ht.2.1)) _, h.hh.setOther (a := ⟨b, o, none⟩) ?_ _, h.rr.setOther (a := ⟨b, o, none⟩) (ne h.rr (Ne.symm ht.2.2.1)) _, ⟨vs, htab.setOther hb ht.2.2.2 ?_ o v⟩, h.hlt, by have := h.sz; simpa [World.setCell] using this, h.c0, h.c2, h.c9⟩
  · rcases h21 with h1 | h1
    · exact ne h.hh (Ne.symm h1)
    · exact Ne.symm h1.2
  · rcases h21 with h1 | h1
    · exact .inl h1
    · exact .inr h1.1

theorem Sx.setQ (h : Sx w g1 bn l ks nv bcv bc bh br bq bf ba bp B1 m n CC hf rf rows wx) (hk : Kon w bh bq bf bp B1 m n c1 g1 CC) (i z : Nat) : Sx w g1 bn l ks nv bcv bc bh br bq bf ba bp B1 m n CC hf rf rows (wx.setCell ⟨bq, i, none⟩ (.int .i32 (z : Nat))) := by
  obtain ⟨qf, hq⟩ := h.qq
  obtain ⟨f, hff⟩ := h.ff
  obtain ⟨cur, hb⟩ := row_block hq
  refine ⟨h.pre.keep (h.pre.bel.setCell (p := ⟨bq, i, none⟩) hk.gq _) (fun b c t hbt ht => Below.heap_setCell _ ⟨bq, i, none⟩ _ _ ?_), h.nc.setOther hb (by decide) (.inr ⟨hk.qlt, Ne.symm hk.hq⟩) i _, ⟨updN qf i z, (hq.set i _).congr (fun j _ => ?_)⟩, ⟨f, hff.setOther (a := ⟨bq, i, none⟩) (row_neq hff hq (by decide)) _⟩, h.pp.setOther (a := ⟨bq, i, none⟩) (row_neq h.pp hq (by decide)) _, h.hge, h.rge, h.age, h.b1⟩
  · rintro rfl
    rw [hb] at hbt
    rcases ht with rfl | rfl | rfl <;> simp at hbt
  · unfold updN
    by_cases e : j = i <;> simp [e]
theorem Sx.setF (h : Sx w g1 bn l ks nv bcv bc bh br bq bf ba bp B1 m n CC hf rf rows wx) (hk : Kon w bh bq bf bp B1 m n c1 g1 CC) (i : Nat) (z : Int) : Sx w g1 bn l ks nv bcv bc bh br bq bf ba bp B1 m n CC hf rf rows (wx.setCell ⟨bf, i, none⟩ (.int .i64 z)) := by
  obtain ⟨qf, hq⟩ := h.qq
  obtain ⟨f, hff⟩ := h.ff
  obtain ⟨cur, hb⟩ := row_block hff
  refine ⟨h.pre.keep (h.pre.bel.setCell (p := ⟨bf, i, none⟩) hk.gf _) (fun b c t hbt ht => Below.heap_setCell _ ⟨bf, i, none⟩ _ _ ?_), h.nc.setOther hb (by decide) (.inl (by decide)) i _, ⟨qf, hq.setOther (a := ⟨bf, i, none⟩) (row_neq hq hff (by decide)) _⟩, ⟨upd f i z, (hff.set i _).congr (fun j _ => ?_)⟩, h.pp.setOther (a := ⟨bf, i, none⟩) (row_neq h.pp hff (by decide)) _, h.hge, h.rge, h.age, h.b1⟩
  · rintro rfl
    rw [hb] at hbt
    rcases ht with rfl | rfl | rfl <;> simp at hbt
  · unfold upd
    by_cases e : j = i <;> simp [e]

/-- Behind a call of pair. -/
theorem Sx.paired (h : Sx w g1 bn l ks nv bcv bc bh br bq bf ba bp B1 m n CC hf rf rows wx) (hk : Kon w bh bq bf bp B1 m n c1 g1 CC) (hn : NC w' bcv bc bh br ba w.heap.size B1 m (n + 2) CC hf' rf' rows') (hfm : Fm bh br ba B1 wx w') : Sx w g1 bn l ks nv bcv bc bh br bq bf ba bp B1 m n CC hf' rf' rows' w' ∧ ∀ (b : Nat) (D : Nat → Value), wx.rowIs b 29 3 D → w'.rowIs b 29 3 D := by
  obtain ⟨qf, hq⟩ := h.qq
  obtain ⟨f, hff⟩ := h.ff
  obtain ⟨ch, eh⟩ := row_block h.nc.hh
  obtain ⟨cr, er⟩ := row_block h.nc.rr
  obtain ⟨vs, ht⟩ := h.nc.tab
  obtain ⟨ca, ea⟩ := own_type ht.own (g := ba) rfl
  have key : ∀ {b : Nat} {t : TypeId} {cur : Array Value}, wx.heap[b]? = some (.cells cur t (0, 0)) → (t ≠ 21 ∨ (b < B1 ∧ b ≠ bh)) → t ≠ 27 → t ≠ 34 → w'.heap[b]? = wx.heap[b]? := by
    intro b t cur hb h1 h2 h3
    rw [hb]
    refine hfm.keep b cur t (0, 0) hb ?_ ?_ ?_ (h1.imp id (·.1))
    · rintro rfl
      rcases h1 with h1 | h1
      · rw [eh] at hb; simp at hb; exact h1 hb.2.symm
      · exact h1.2 rfl
    · rintro rfl; rw [er] at hb; simp at hb; exact h2 hb.2.symm
    · rintro rfl; rw [ea] at hb; simp at hb; exact h3 hb.2.symm
  have row : ∀ {b : Nat} {t : TypeId} {k : Nat} {g : Nat → Value}, wx.rowIs b t k g → (t ≠ 21 ∨ (b < B1 ∧ b ≠ bh)) → t ≠ 27 → t ≠ 34 → w'.rowIs b t k g := by
    intro b t k g hr h1 h2 h3
    obtain ⟨c, hc⟩ := row_block hr
    exact hr.of_block (key hc h1 h2 h3)
  have hbel : Below w.heap.size w w' := by
    refine h.pre.bel.trans ⟨hfm.os, hfm.tape, hfm.output, hfm.size, fun k hk' => ?_⟩
    have h1 := h.hge
    have h2 := h.rge
    have h3 := h.age
    have h4 := h.b1
    exact hfm.low k (Nat.lt_of_lt_of_le hk' h.pre.bel.size) (by omega) (by omega) (by omega) (by omega)
  refine ⟨⟨h.pre.keep hbel (fun b c t hb ht => ?_), hn, ⟨qf, row hq (.inr ⟨hk.qlt, Ne.symm hk.hq⟩) (by decide) (by decide)⟩, ⟨f, row hff (.inl (by decide)) (by decide) (by decide)⟩, row h.pp (.inl (by decide)) (by decide) (by decide), h.hge, h.rge, h.age, h.b1⟩, fun b D hb => row hb (.inl (by decide)) (by decide) (by decide)⟩
  rcases ht with rfl | rfl | rfl
  · exact key hb (.inl (by decide)) (by decide) (by decide)
  · exact key hb (.inl (by decide)) (by decide) (by decide)
  · exact key hb (.inl (by decide)) (by decide) (by decide)
end

theorem own_row {w : World} {b B : Nat} {t : TypeId} {n : Nat} {z : Value} (h : w.rowIs b t n (fun _ => z)) (hB : B ≤ b) (hn : n ≤ 100000) : w.ownsRow B t 1 (.slice (some ⟨b, 0, none⟩) n n) n (List.replicate n z) := by
  obtain ⟨c, h1, h2, h3⟩ := h
  refine ⟨by simp, .inr ⟨b, n, c, rfl, hB, h1, Nat.le_refl _, by unfold maxLen; omega, by omega, ?_⟩⟩
  apply List.ext_getElem?
  intro j
  by_cases hj : j < n
  · rw [List.getElem?_take_of_lt (by omega), Array.getElem?_toList, h3 j hj]
    simp [hj]
  · rw [List.getElem?_take_eq_none (by omega), List.getElem?_eq_none (by simp; omega)]

theorem take_any {P : Program} {l : List Oper} {Q : Exit → Act → World → Prop} {md : Region.Mode} {i : Nat} {oi : Oper} {v : Value} {fuel : Nat} {listed : Array Bool} {a : Act} {w : World} (hi : l[i]? = some oi)
    (hs : Region.noSelect l.toArray = true) (hf : Region.free md l.toArray listed i = true) (hr : (Region.ready md l.toArray listed).contains i = true)
    (hQ : ∀ c a w, Q (.panic c) (a.put oi.dst v) w → Q (.panic c) a w) (hy : Yields P l.toArray oi v a)
    (h : wpAny P md l.toArray Q fuel (listed.setIfInBounds i true) (a.put oi.dst v) w) : wpAny P md l.toArray Q (fuel + 1) listed a w :=
  wpAny_take (by simpa using hi) hs hf hr hQ hy h
theorem chk1 {listed : Array Bool} (h : (List.range 30).all (fun j => listed.getD j false || RR.contains j) = true) : ∀ j, listed.getD j false = false → j ∈ RR ∨ 30 ≤ j := by
  intro j hj
  by_cases hlt : j < 30
  · have h1 := List.all_eq_true.1 h j (List.mem_range.2 hlt)
    rw [hj] at h1
    exact .inl (by simpa using h1)
  · exact .inr (by omega)
theorem chk2 {listed : Array Bool} (h : RR.all (fun j => !listed.getD j false) = true) : ∀ j ∈ RR, listed.getD j false = false := by
  intro j hj
  have h1 := List.all_eq_true.1 h j hj
  simpa using h1

theorem Pre.start {w wx wy : World} {g1 bn m n c1 bh bo br bq bf ba bp bc bv : Nat} {l : List Debt} {ks : List (List UInt8)} {nv : Value} {a0 a : Act} (h : Pre w wx g1 bn l ks nv) (hF : Fin wx.drew a0 m n nv (.slice (some ⟨g1, 0, none⟩) m c1) a wy bh bo br bq bf ba bp bc bv) (hn : n ≤ 4000) :
    ∃ bcv bc bh br bq bf ba bp B1 CC, Value.pointer (some ⟨bv, 0, none⟩) = .pointer (some ⟨bcv, 0, none⟩) ∧ Kon w bh bq bf bp B1 m n c1 g1 CC ∧ St w g1 bn l ks nv bcv bc bh br bq bf ba bp B1 m n CC 0 wy := by
  have hs : w.heap.size ≤ wx.heap.size := h.bel.size
  obtain ⟨gh, gr, gq, gf, ga, gp, gc, gv⟩ := hF.ge
  have hb : Below w.heap.size w wy := h.bel.trans ((show Below wx.heap.size wx wy from ⟨hF.bel.os, hF.bel.tape, hF.bel.output, hF.bel.size, hF.bel.block⟩).mono hs)
  have gh' : wx.heap.size ≤ bh := gh
  have gq' : wx.heap.size ≤ bq := gq
  have gf' : wx.heap.size ≤ bf := gf
  have ga' : wx.heap.size ≤ ba := ga
  have gr' : wx.heap.size ≤ br := gr
  have gs' : wx.heap.size ≤ wy.heap.size := hF.bel.size
  refine ⟨bv, bc, bh, br, bq, bf, ba, bp, wy.heap.size, _, rfl, ⟨hF.qq.lt, hF.hq, by omega, by omega, rfl, rfl, rfl, rfl, rfl, rfl⟩, ⟨fun _ => 0, fun _ => 0, List.replicate (n + 2) [], Arcs.zero _ _ _ _ _ _ _, ⟨h.keep hb (fun b cur t hbk _ => hF.bel.block b (Array.getElem?_eq_some_iff.1 hbk).1), ⟨hF.vv, hF.cx, hF.hh, hF.rr, ⟨List.replicate (n + 2) (.slice none 0 0), own_row hF.aa (by omega) (by omega), by simp, fun k v r hv hr => ?_, fun k j v u _ hv _ => ?_⟩, hF.hh.lt, Nat.le_refl _, rfl, rfl, rfl⟩, ⟨fun _ => 0, hF.qq⟩, ⟨fun _ => 0, hF.ff⟩, hF.pp, by omega, by omega, by omega, by omega⟩⟩⟩
  · have e1 := (List.mem_replicate.1 (List.mem_of_getElem? hv)).2
    have e2 := (List.mem_replicate.1 (List.mem_of_getElem? hr)).2
    subst e1 e2
    exact World.ownsRow_nil _ _ _ _
  · have e1 := (List.mem_replicate.1 (List.mem_of_getElem? hv)).2
    subst e1
    exact .inl rfl

theorem Pre.num {w wx : World} {g1 bn : Nat} {l : List Debt} {ks : List (List UInt8)} {nv : Value} (h : Pre w wx g1 bn l ks nv) (hr : Rise ks) (hl : ks.length ≤ 100000) (s : List UInt8) (hs : s ∈ ks) :
    ∀ q, Calls Yba.prog 20 #[.string (ByteArray.mk s.toArray), .pointer (some ⟨bn, 0, none⟩)] (wx.drewN q) fun e w' => e = .returned (.int .i32 (ks.idxOf s : Nat)) ∧ w' = wx.drewN q := by
  intro q
  have hlt : ks.idxOf s < ks.length := List.idxOf_lt_length_of_mem hs
  have hown := h.own
  rcases hown.2 with ⟨_, h0⟩ | ⟨gn, cp, cur, rfl, _⟩
  · omega
  · have hv := h.var.cell (i := 0) (by omega)
    refine number bn gn cp (ks.idxOf s) ks (ByteArray.mk s.toArray) (wx.drewN q) hr hlt (by rw [mk_toList, List.getElem_idxOf]) hl hv (fun i hi => ?_)
    have h1 := hown.cellAt i (by omega)
    have e : (ks2 ks)[i]? = some (encStr ks[i]) := by simp [ks2, hi]
    rw [e] at h1
    exact h1

theorem Sx.call {w X : World} {g1 bn : Nat} {l : List Debt} {ks : List (List UInt8)} {nv : Value} {bcv bc bh br bq bf ba bp B1 m n c1 : Nat} {CC : Nat → Value} {hf : Nat → Nat} {rf : Nat → Int} {rows : List (List Nat)} (h : Sx w g1 bn l ks nv bcv bc bh br bq bf ba bp B1 m n CC hf rf rows X) (hk : Kon w bh bq bf bp B1 m n c1 g1 CC) (j u v : Nat) (x y : Int) (hj : j + 1 < 6 * m) (hu : u < n + 2) (hv : v < n + 2) (hm : m ≤ 1024) (hl : ∀ r ∈ rows, r.length ≤ 10000) :
    Calls Yba.prog 22 #[.int .i64 (j : Nat), .int .i32 (u : Nat), .int .i32 (v : Nat), .int .i64 x, .int .i64 y, .pointer (some ⟨bcv, 0, none⟩)] X fun e w' => e = .returned (.tuple #[]) ∧
      Sx w g1 bn l ks nv bcv bc bh br bq bf ba bp B1 m n CC (updN (updN hf j v) (j + 1) u) (upd (upd rf j x) (j + 1) y) (put (put rows u j) v (j + 1)) w' ∧ ∀ (b : Nat) (D : Nat → Value), X.rowIs b 29 3 D → w'.rowIs b 29 3 D :=
  (pair bcv bc bh br ba w.heap.size B1 m (n + 2) CC hf rf rows j u v x y X h.nc hj hu hv hm hl).mono fun _ _ ⟨he, hn, hfm⟩ => ⟨he, h.paired hk hn hfm⟩

theorem row3 (w : World) (x y z : Value) (t : TypeId) : (w.alloc (.cells #[x, y, z] t)).rowIs w.heap.size t 3 (fun j => [x, y, z].getD j undef) :=
  World.rowIs_alloc w #[x, y, z] t _ (fun i hi => by
    have hi' : i < 3 := by simpa using hi
    match i, hi' with
    | 0, _ => rfl
    | 1, _ => rfl
    | 2, _ => rfl)
/-- The end: the graph lies as it is asked. -/
theorem Sx.gat {w wx : World} {g1 bn : Nat} {l : List Debt} {ks : List (List UInt8)} {nv : Value} {bcv bc bh br bq bf ba bp B1 m n c1 : Nat} {CC : Nat → Value} {hf : Nat → Nat} {rf : Nat → Int} {rows : List (List Nat)} {u v : Nat → Nat} {a : Nat → Int} (h : Sx w g1 bn l ks nv bcv bc bh br bq bf ba bp B1 m n CC hf rf rows wx) (hk : Kon w bh bq bf bp B1 m n c1 g1 CC) (ha : Arcs n m u v a m hf rf rows) (hL : Laid (gr n m hf rf rows) n m u v a) (hm : m ≤ 1024) (hn : n ≤ 4000) : GAt wx bc bh br bp ba (gr n m hf rf rows) := by
  have cell : ∀ {i : Nat} {x : Value}, i < 11 → CC i = x → wx.cell? ⟨bc, i, none⟩ = some x := fun hi e => by rw [← e]; exact h.nc.cc.cell hi
  obtain ⟨vs, ht⟩ := h.nc.tab
  refine ⟨cell (by omega) h.nc.c0, cell (by omega) h.nc.c2, ⟨_, _, cell (by omega) hk.c4⟩, cell (by omega) hk.c6, cell (by omega) h.nc.c9, cell (by omega) hk.c10, fun i hi => h.nc.hh.cell hi, fun i hi => h.nc.rr.cell hi, fun x hx => h.pp.cell hx, fun x hx => ?_, fun i hi => hL.hdlt hi, hm, by show n + 2 ≤ 4096; omega, fun x hx => ?_⟩
  · have hx' : x < n + 2 := hx
    obtain ⟨vx, h1, h2, h3⟩ := ht.at hx'
    have e : (gr n m hf rf rows).adj x = rows[x]'(by rw [ht.rl]; exact hx') := by
      show rows.getD x [] = _
      rw [List.getD_eq_getElem?_getD, h2]
      rfl
    rw [e]
    have hc := ht.own.cellAt x (by omega)
    rw [h1] at hc
    obtain ⟨va, vc, hv⟩ := row_val h3
    refine ⟨va, vc, by rw [hc, hv], fun hp => ?_⟩
    obtain ⟨gx, cx, hgx, hcx⟩ := row_shape h3 hp
    rw [hv] at hgx
    simp at hgx
    exact ⟨gx, hgx.1, hcx⟩
  · show (rows.getD x []).length ≤ 100000
    have hx' : x < rows.length := by rw [ht.rl]; exact hx
    have hg : rows.getD x [] ∈ rows := by
      rw [List.getD_eq_getElem?_getD, List.getElem?_eq_getElem hx']
      exact List.getElem_mem _
    have := ha.sml _ hg
    omega
end Go.Proofs.Ybulkcmrw.W
