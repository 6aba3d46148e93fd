/-
  distances: the walk.
-/
import Derived.Test.YbulkcmrwSmall
namespace Go.Proofs.Ybulkcmrw.W
open Go Go.RowKit Go.Proofs.Ybulkcmrw.Mem Go.Proofs.Ybulkcmrw.G

/-- A row of int64s, told by a function. -/
def dc (f : Nat → Int) (n : Nat) : List Value := (List.range n).map fun x => Value.int .i64 (f x)
theorem dc_length (f : Nat → Int) (n : Nat) : (dc f n).length = n := by simp [dc]
theorem dc_get (f : Nat → Int) {n x : Nat} (h : x < n) : (dc f n)[x]? = some (.int .i64 (f x)) := by simp [dc, h]
theorem dc_set (f : Nat → Int) (n w : Nat) (z : Int) : (dc f n).set w (.int .i64 z) = dc (upd f w z) n := by
  apply List.ext_getElem?
  intro k
  by_cases hk : k < n
  · by_cases e : w = k
    · subst e
      rw [List.getElem?_set_self (by rw [dc_length]; exact hk), dc_get _ hk, upd_same]
    · rw [List.getElem?_set_ne e, dc_get _ hk, dc_get _ hk, upd_other _ _ (Ne.symm e)]
  · rw [List.getElem?_eq_none (by rw [List.length_set, dc_length]; omega), List.getElem?_eq_none (by rw [dc_length]; omega)]
theorem dc_congr {f g : Nat → Int} {n : Nat} (h : ∀ x, x < n → f x = g x) : dc f n = dc g n := by
  apply List.map_congr_left
  intro x hx
  rw [h x (List.mem_range.1 hx)]

theorem info2 : (Yba.prog.info? 2).map (fun i => (i.zero, i.size, i.bytes)) = some (some (.int .i64 0), 1, 8) := by kernel_rfl
theorem info21 : (Yba.prog.info? 21).map (fun i => (i.zero, i.size, i.bytes)) = some (some (.int .i32 0), 1, 4) := by kernel_rfl
theorem info34 : (Yba.prog.info? 34).map (fun i => (i.zero, i.size, i.bytes)) = some (some (.slice none 0 0), 1, 24) := by kernel_rfl

/-- The states of distances: the buckets tv, the distances f. -/
structure DS (w : World) (N : Nat) (wx : World) (tv : Value) (f : Nat → Int) (rows : List (List Nat)) : Prop where
  tab : ∃ vs, Tab wx w.heap.size w.heap.size tv rows.length vs rows
  dist : wx.ownsRow w.heap.size 2 1 (.slice (some ⟨w.heap.size, 0, none⟩) N N) N (dc f N)
  bel : Below w.heap.size w wx
  shp : ∃ gt cap, tv = .slice (some ⟨gt, 0, none⟩) rows.length cap

section
variable {w wx : World} {N : Nat} {tv : Value} {f : Nat → Int} {rows : List (List Nat)}

theorem DS.sz (h : DS w N wx tv f rows) : w.heap.size ≤ wx.heap.size := h.bel.size
theorem DS.drewN (h : DS w N wx tv f rows) (m : Nat) : DS w N (wx.drewN m) tv f rows := by
  obtain ⟨vs, ht⟩ := h.tab
  exact ⟨⟨vs, ht.own, ht.rl, ht.each, ht.dis⟩, h.dist, h.bel.trans ⟨rfl, rfl, rfl, Nat.le_refl _, fun _ _ => rfl⟩, h.shp⟩
theorem DS.alloc (h : DS w N wx tv f rows) (o : Obj) : DS w N (wx.alloc o) tv f rows := by
  obtain ⟨vs, ht⟩ := h.tab
  exact ⟨⟨vs, ht.alloc o⟩, h.dist.alloc o, h.bel.alloc h.sz o, h.shp⟩
theorem DS.start {src : Nat} (hb : Below w.heap.size w wx) (hd : wx.ownsRow w.heap.size 2 1 (.slice (some ⟨w.heap.size, 0, none⟩) N N) N (dc f N)) :
    DS w N ((wx.alloc (.cells #[.int .i32 (src : Nat)] 21)).alloc (.cells #[.slice (some ⟨wx.heap.size, 0, none⟩) 1 1] 34)) (.slice (some ⟨wx.heap.size + 1, 0, none⟩) 1 1) f [[src]] := by
  have hsz := hb.size
  have h1 := World.ownsRow_lit (base := w.heap.size) (e := 21) (size := 1) wx #[.int .i32 (src : Nat)] 1 hsz (by decide) rfl
  have e : (wx.alloc (.cells #[.int .i32 (src : Nat)] 21)).heap.size = wx.heap.size + 1 := by simp
  have h2 := World.ownsRow_lit (base := w.heap.size) (e := 34) (size := 1) (wx.alloc (.cells #[.int .i32 (src : Nat)] 21)) #[.slice (some ⟨wx.heap.size, 0, none⟩) 1 1] 1 (by omega) (by decide) rfl
  rw [e] at h2
  refine ⟨⟨[.slice (some ⟨wx.heap.size, 0, none⟩) 1 1], h2, rfl, ?_, ?_⟩, (hd.alloc _).alloc _, (hb.alloc hsz _).alloc (by omega) _, ⟨_, _, rfl⟩⟩
  · intro k v r hv hr
    cases k with
    | zero => simp at hv hr; subst hv hr; exact h1.alloc _
    | succ k => simp at hv
  · intro k l v u hkl hv hu
    have h3 := (List.getElem?_eq_some_iff.1 hv).1
    have h4 := (List.getElem?_eq_some_iff.1 hu).1
    simp at h3 h4
    omega
theorem DS.read {gt cap d : Nat} (h : DS w N wx (.slice (some ⟨gt, 0, none⟩) rows.length cap) f rows) (hd : d < rows.length) :
    ∃ va vc, wx.cell? ⟨gt, d, none⟩ = some (.slice va rows[d].length vc) ∧ ∀ j (hj : j < rows[d].length), ∃ g, va = some ⟨g, 0, none⟩ ∧ wx.cell? ⟨g, j, none⟩ = some (.int .i32 (rows[d][j] : Nat)) := by
  obtain ⟨vs, ht⟩ := h.tab
  obtain ⟨v, hv, _, hr⟩ := ht.at hd
  have hc := ht.own.cellAt d (by omega)
  rw [hv] at hc
  obtain ⟨va, vc, rfl⟩ := row_val hr
  refine ⟨va, vc, hc, fun j hj => ?_⟩
  obtain ⟨g, c, h1, h2⟩ := row_shape hr (by omega)
  simp at h1
  exact ⟨g, h1.1, h2 j hj⟩
theorem DS.distAt (h : DS w N wx tv f rows) {x : Nat} (hx : x < N) : wx.cell? ⟨w.heap.size, x, none⟩ = some (.int .i64 (f x)) := by
  rw [h.dist.cellAt x (by omega), dc_get _ hx]
theorem DS.distFree (h : DS w N wx tv f rows) (x : Nat) : wx.frozen? ⟨w.heap.size, x, none⟩ = false := h.dist.frozenAt x
theorem DS.setDist (h : DS w N wx tv f rows) (x : Nat) (z : Int) : DS w N (wx.setCell ⟨w.heap.size, x, none⟩ (.int .i64 z)) tv (upd f x z) rows := by
  obtain ⟨vs, ht⟩ := h.tab
  obtain ⟨cur, hcur⟩ := own_type h.dist (g := w.heap.size) rfl
  have st := (h.dist.stored x (.int .i64 z)).1
  rw [dc_set] at st
  exact ⟨⟨vs, ht.setOther hcur (by decide) (.inl (by decide)) x _⟩, st, h.bel.setCell (p := ⟨w.heap.size, x, none⟩) (Nat.le_refl _) _, h.shp⟩
theorem DS.padded {wy w' : World} {vs : List Value} {tv' : Value} (h : DS w N wy tv f rows) (ht : Tab wy w.heap.size w.heap.size tv rows.length vs rows) (ho : w'.ownsRow w.heap.size 34 1 tv' (rows.length + 1) (vs ++ [.slice none 0 0])) (hg : wy.grownBy w' tv.ownBlock) : DS w N w' tv' f (rows ++ [[]]) := by
  have hl : (rows ++ [[]]).length = rows.length + 1 := by simp
  refine ⟨⟨vs ++ [.slice none 0 0], by rw [hl]; exact ht.grow ho hg⟩, h.dist.kept hg (own_ne h.dist ht.own (by decide)), h.bel.grown hg h.sz (fun k hk => (ht.own.lt k hk).1), ?_⟩
  rw [hl]
  rcases ho.2 with ⟨_, h0⟩ | ⟨g, cap, cur, hv, _⟩
  · omega
  · exact ⟨g, cap, hv⟩
theorem DS.pushed {wy w' : World} {vs : List Value} {gt cap k x : Nat} {v v' : Value} {r : List Nat} (h : DS w N wy (.slice (some ⟨gt, 0, none⟩) rows.length cap) f rows) (ht : Tab wy w.heap.size w.heap.size (.slice (some ⟨gt, 0, none⟩) rows.length cap) rows.length vs rows)
    (hv : vs[k]? = some v) (hr : rows[k]? = some r) (ho : w'.ownsRow w.heap.size 21 1 v' (r.length + 1) (ic r ++ [.int .i32 (x : Nat)])) (hg : wy.grownBy w' v.ownBlock) (hf : v'.ownBlock = v.ownBlock ∨ v'.ownBlock = some wy.heap.size) :
    DS w N (w'.setCell ⟨gt, k, none⟩ v') (.slice (some ⟨gt, 0, none⟩) rows.length cap) f (put rows k x) := by
  have hro := ht.each k v r hv hr
  have e : put rows k x = rows.set k (r ++ [x]) := by unfold put; rw [List.getD_eq_getElem?_getD, hr]; rfl
  have hl : (rows.set k (r ++ [x])).length = rows.length := by simp
  have hbase := (ht.own.lt gt rfl).1
  have d1 := h.dist.kept hg (own_ne h.dist hro (by decide))
  have own1 := ht.own.kept hg (own_ne ht.own hro (by decide))
  rw [e]
  refine ⟨⟨vs.set k v', by rw [hl]; exact ht.push hv hr ho hg hf⟩, d1.kept (grown_set w' gt k v') ?_, (h.bel.grown hg h.sz (fun k hk => (hro.lt k hk).1)).setCell (p := ⟨gt, k, none⟩) hbase _, ⟨gt, cap, by rw [hl]⟩⟩
  rcases own_ne d1 own1 (by decide) with h1 | h1
  · exact .inl h1
  · exact .inr (by simpa [Value.ownBlock] using h1)
end

theorem put_len {rows : List (List Nat)} {d k x : Nat} {r : List Nat} (h : rows[d]? = some r) : ∃ r', (put (pad rows k) k x)[d]? = some r' ∧ r'.length ≤ r.length + 1 := by
  obtain ⟨s, hs⟩ := ext_pad rows k d r h
  have hs0 : s = [] := by
    unfold pad at hs
    split at hs
    · rw [List.getElem?_append_left (List.getElem?_eq_some_iff.1 h).1, h] at hs
      simp at hs
      exact hs
    · rw [h] at hs
      simp at hs
      exact hs
  subst hs0
  rw [List.append_nil] at hs
  by_cases e : k = d
  · subst e
    refine ⟨r ++ [x], ?_, by simp⟩
    unfold put
    rw [List.getElem?_set_self (List.getElem?_eq_some_iff.1 hs).1, List.getD_eq_getElem?_getD, hs]
    rfl
  · exact ⟨r, by unfold put; rw [List.getElem?_set_ne e]; exact hs, by omega⟩
def PB (N : Nat) (f : Nat → Int) (rows : List (List Nat)) : Prop := ∀ r ∈ rows, phi f N + r.length ≤ 2 * N + 1
theorem phi_le {f : Nat → Int} (h : ∀ x, pot (f x) ≤ 2) : ∀ n, phi f n ≤ 2 * n
  | 0 => Nat.le_refl _
  | n + 1 => by have h1 := phi_le h n; have h2 := h n; rw [phi]; omega
theorem pb_start (N src : Nat) : PB N (upd (fun _ => -1) src 0) [[src]] := by
  intro r hr
  simp at hr
  subst hr
  have := phi_le (f := upd (fun _ => -1) src 0) (fun x => by
    by_cases e : x = src
    · subst e; rw [upd_same]; decide
    · rw [upd_other _ _ e]; decide) N
  simp
  omega
theorem pb_push {N w tt : Nat} {f : Nat → Int} {rows : List (List Nat)} (h : PB N f rows) (hw : w < N) (hp : pot (tt : Nat) < pot (f w)) (h0 : phi f N ≤ 2 * N + 1) : PB N (upd f w (tt : Nat)) (put (pad rows tt) tt w) := by
  have h1 := phi_upd f w (tt : Nat) hp N hw
  have hpad : ∀ r ∈ pad rows tt, phi f N + r.length ≤ 2 * N + 1 := by
    intro r hr
    unfold pad at hr
    split at hr
    · rw [List.mem_append] at hr
      rcases hr with hr | hr
      · exact h r hr
      · simp at hr; subst hr; simpa using h0
    · exact h r hr
  intro r hr
  unfold put at hr
  rcases List.mem_or_eq_of_mem_set hr with h2 | h2
  · have := hpad r h2; omega
  · subst h2
    by_cases hl : tt < (pad rows tt).length
    · have hg : (pad rows tt).getD tt [] ∈ pad rows tt := by
        rw [List.getD_eq_getElem?_getD, List.getElem?_eq_getElem hl]
        exact List.getElem_mem _
      have := hpad _ hg
      rw [List.length_append]
      simp at this ⊢
      omega
    · have e : (pad rows tt).getD tt [] = [] := by rw [List.getD_eq_getElem?_getD, List.getElem?_eq_none (by omega)]; rfl
      rw [e]
      simp
      omega
theorem pb_pad {N k : Nat} {f : Nat → Int} {rows : List (List Nat)} (h : PB N f rows) : ∀ r ∈ pad rows k, r.length ≤ 2 * N + 1 := by
  intro r hr
  unfold pad at hr
  split at hr
  · rw [List.mem_append] at hr
    rcases hr with hr | hr
    · have := h r hr; omega
    · simp at hr; subst hr; simp
  · have := h r hr; omega
theorem pad_lt {rows : List (List Nat)} {k : Nat} (h : k ≤ rows.length) : k < (pad rows k).length := by
  unfold pad
  split
  · simp; omega
  · omega

set_option maxHeartbeats 8000000 in
set_option maxRecDepth 100000 in
theorem distances (bc bh br bp ba : Nat) (G : Gr) (D : Nat → Int) (lv : Nat → Nat) (w : World) (hG : GAt w bc bh br bp ba G) (hO : Ok G) (hB : Best G D lv) :
    Calls Yba.prog 8 #[.pointer (some ⟨bc, 0, none⟩)] w fun e w' => e = .returned (.slice (some ⟨w.heap.size, 0, none⟩) G.N G.N) ∧ (∀ x, x < G.N → w'.cell? ⟨w.heap.size, x, none⟩ = some (.int .i64 (D x))) ∧ Below w.heap.size w w' := by
  obtain ⟨i2, hi2, hz20, hz21, hz22⟩ := info_parts info2
  obtain ⟨i21, hi21, hz210, hz211, hz212⟩ := info_parts info21
  obtain ⟨i34, hi34, hz340, hz341, hz342⟩ := info_parts info34
  have HG : Hid (GAt w bc bh br bp ba G) := hG
  have hm := hG.mle
  have hn := hG.nle
  have c9 := hG.arcs
  have hsl := hO.src
  clear hG
  go_enter Yba.func8, Yba.ntmps8
  go_wp2_with (at_make; refine wpList_make_full _ rfl _ _ 40 rfl w.heap.size 2 i2 (.int .i64 0) 1 Yba.underlying40 hi2 hz20 hz21 .i64 .i64 _ _ G.N rfl rfl rfl rfl ?m1 ?m2 (Nat.le_refl _) ?_)
  case m1 => rw [hz22]; omega
  case m2 => unfold maxLen; omega
  intro w1 ho1 hg1
  have b1 : Below w.heap.size w w1 := (Below.refl _ w).grown hg1 (Nat.le_refl _) (by simp)
  have ho1' : w1.ownsRow w.heap.size 2 1 (.slice (some ⟨w.heap.size, 0, none⟩) G.N G.N) G.N (dc (fun _ => 0) G.N) := by
    rw [toList_madeCells_one] at ho1
    have e : List.replicate G.N (Value.int .i64 0) = dc (fun _ => 0) G.N := by
      apply List.ext_getElem?
      intro k
      by_cases hk : k < G.N
      · rw [dc_get _ hk]; simp [hk]
      · rw [List.getElem?_eq_none (by simp; omega), List.getElem?_eq_none (by rw [dc_length]; omega)]
    rw [e] at ho1
    exact ho1
  clear ho1 hg1
  go_upto_block 0 with fail
  go_cut [21] (fun _ wx => wx.ownsRow w.heap.size 2 1 (.slice (some ⟨w.heap.size, 0, none⟩) G.N G.N) G.N (dc (fun _ => -1) G.N) ∧ Below w.heap.size w wx)
  case first =>
    go_wp2_with fail
    go_loopg [21] G.N (fun gk iv wr => ∃ i : Nat, i + gk = G.N ∧ iv = .int .i64 (i : Nat) ∧ wr.ownsRow w.heap.size 2 1 (.slice (some ⟨w.heap.size, 0, none⟩) G.N G.N) G.N (dc (fun x => if x < i then -1 else 0) G.N) ∧ Below w.heap.size w wr)
    case atStart => exact ⟨0, by omega, rfl, by simpa using ho1', b1⟩
    case round =>
      obtain ⟨i, hi, rfl, hd, hb⟩ := hrel
      have HI : Hid (i + gk = G.N) := hi
      by_cases hlt : i < G.N
      · have hI : (i : Int) < (G.N : Int) := by omega
        have hc := hd.cellAt i (by omega)
        rw [dc_get _ hlt] at hc
        have hf := hd.frozenAt
        have st := (hd.stored i (.int .i64 (-1))).1
        rw [dc_set] at st
        have e : dc (upd (fun x => if x < i then -1 else 0) i (-1)) G.N = dc (fun x => if x < i + 1 then -1 else 0) G.N := by
          apply dc_congr
          intro x hx
          by_cases e : x = i
          · subst e; rw [upd_same]; simp
          · rw [upd_other _ _ e]
            have : (x < i + 1) = (x < i) := by rw [eq_iff_iff]; omega
            simp [this]
        rw [e] at st
        have HD : Hid (World.ownsRow _ _ _ _ _ _ _) := st
        have HBb : Hid (Below _ _ _) := hb.setCell (p := ⟨w.heap.size, i, none⟩) (Nat.le_refl _) (.int .i64 (-1))
        clear hi hd hb st e
        go_wp2
        go_roundg (gk - 1)
        case measure => have := HI.out; omega
        case rel => exact ⟨i + 1, by have := HI.out; omega, by go_num, HD.out, HBb.out⟩
      · have hI : ¬ (i : Int) < (G.N : Int) := by omega
        have e : dc (fun x => if x < i then -1 else 0) G.N = dc (fun _ => -1) G.N := dc_congr (fun x hx => by simp; omega)
        rw [e] at hd
        have HD : Hid (World.ownsRow _ _ _ _ _ _ _) := hd
        clear e hd
        go_wp2_with fail
        go_meet
        exact ⟨HD.out, hb⟩
  case rest =>
    obtain ⟨hd0, hb0⟩ := hcut
    clear ho1' b1
    rename World => w2
    have c6 := (hb0.cell (p := ⟨bc, 6, none⟩) (World.block_lt_of_cell? w _ HG.out.src)).trans HG.out.src
    have hc0 := hd0.cellAt G.src (by omega)
    rw [dc_get _ hsl] at hc0
    have hf0 := hd0.frozenAt
    have hI0 : (G.src : Int) < (G.N : Int) := by omega
    have st := (hd0.stored G.src (.int .i64 0)).1
    rw [dc_set] at st
    have hb1 := hb0.setCell (p := ⟨w.heap.size, G.src, none⟩) (Nat.le_refl _) (.int .i64 0)
    have hz1 : w.heap.size ≤ (w2.setCell ⟨w.heap.size, G.src, none⟩ (.int .i64 0)).heap.size := hb1.size
    go_upto_region 8 with fail
    generalize w2.setCell ⟨w.heap.size, G.src, none⟩ (.int .i64 0) = w3 at *
    have c6' := (hb1.cell (p := ⟨bc, 6, none⟩) (World.block_lt_of_cell? w _ HG.out.src)).trans HG.out.src
    clear c6 hc0 hf0 hd0 hb0 w2
    go_upto_block 2 with fail
    have hds := DS.start (src := G.src) hb1 st
    have hdj := DJ.start hB hO
    generalize ((w3.alloc (.cells #[.int .i32 (G.src : Nat)] 21)).alloc (.cells #[.slice (some ⟨w3.heap.size, 0, none⟩) 1 1] 34)) = w4 at *
    have HDS0 : Hid (DS w G.N w4 _ _ _) := hds
    have HDJ0 : Hid (DJ G D _ _ 0 0) := hdj
    have HO : Hid (Ok G) := hO
    have HBE : Hid (Best G D lv) := hB
    clear c6' st hb1 hz1 hds hdj hO hB
    go_cut [5, 6] (fun _ _ wx => ∃ tv rows f d, DS w G.N wx tv f rows ∧ DJ G D f rows d 0 ∧ rows.length ≤ d)
    case first =>
      go_wp2_with fail
      go_loopg [5, 6] 2 (fun gk tvv dv wr => ∃ (d : Nat) (f : Nat → Int) (rows : List (List Nat)), d + gk = 2 ∧ dv = .int .i64 (d : Nat) ∧ DS w G.N wr tvv f rows ∧ DJ G D f rows d 0 ∧ PB G.N f rows)
      case atStart => exact ⟨0, _, _, by omega, rfl, HDS0.out, HDJ0.out, pb_start _ _⟩
      case round =>
        obtain ⟨d, f, rows, hdg, rfl, hds, hdj, hpb⟩ := hrel
        have HPB : Hid (PB G.N f rows) := hpb
        clear hpb
        have HDG : Hid (d + gk = 2) := hdg
        obtain ⟨gt, cap, rfl⟩ := hds.shp
        have HDS : Hid (DS w G.N wr _ f rows) := hds
        have HDJ : Hid (DJ G D f rows d 0) := hdj
        have hrl := hdj.base.len
        clear hds hdj HDS0 HDJ0
        by_cases hlt : d < rows.length
        · have hI : (d : Int) < (rows.length : Int) := by omega
          go_wp2_with fail
          go_loopg [5, 7] (phi f G.N + rows[d].length) (fun gk tvv jv wr => ∃ (j : Nat) (f : Nat → Int) (rows : List (List Nat)) (r : List Nat), jv = .int .i64 (j : Nat) ∧ DS w G.N wr tvv f rows ∧ DJ G D f rows d j ∧ rows[d]? = some r ∧ j ≤ r.length ∧ gk + j = phi f G.N + r.length ∧ PB G.N f rows)
          case atStart => exact ⟨0, f, rows, rows[d], rfl, HDS.out, HDJ.out, List.getElem?_eq_getElem hlt, by omega, rfl, HPB.out⟩
          case round =>
            clear HDS HDJ hI hlt hrl HPB
            obtain ⟨j, f, rows, r, rfl, hds, hdj, hrd, hjl, hgk, hpb⟩ := hrel
            have HPB : Hid (PB G.N f rows) := hpb
            have hrb := hpb r (List.mem_of_getElem? hrd)
            have hrb2 : r.length ≤ 10000 := by omega
            clear hpb hrb
            obtain ⟨gt, cap, rfl⟩ := hds.shp
            have hdl : d < rows.length := (List.getElem?_eq_some_iff.1 hrd).1
            obtain ⟨va, vc, hcv, hcj⟩ := hds.read hdl
            have hrr : rows[d] = r := (List.getElem?_eq_some_iff.1 hrd).2
            rw [hrr] at hcv
            have HCJ : Hid (∀ j' (hj : j' < rows[d].length), ∃ g, va = some ⟨g, 0, none⟩ ∧ wr.cell? ⟨g, j', none⟩ = some (.int .i32 (rows[d][j'] : Nat))) := hcj
            have HRR : Hid (rows[d] = r) := hrr
            have HRD : Hid (rows[d]? = some r) := hrd
            have HDS : Hid (DS w G.N wr _ f rows) := hds
            have HDJ : Hid (DJ G D f rows d j) := hdj
            have HGK : Hid (gk + j = phi f G.N + r.length) := hgk
            have hI1 : (d : Int) < (rows.length : Int) := by omega
            have hrl := hdj.base.len
            clear hds hdj hcj hrr hrd hgk
            by_cases hjr : j < r.length
            · have hI : (j : Int) < (r.length : Int) := by omega
              obtain ⟨gv, hva, hcx⟩ := HCJ.out j (by rw [HRR.out]; exact hjr)
              subst hva
              obtain ⟨v, hv⟩ : ∃ v, r[j] = v := ⟨_, rfl⟩
              have hv2 : rows[d][j]'(by rw [HRR.out]; exact hjr) = v := by simp only [HRR.out]; exact hv
              rw [hv2] at hcx
              have HV : Hid (r[j]? = some v) := by show r[j]? = some v; rw [List.getElem?_eq_getElem hjr, hv]
              have hvN : v < G.N := HDJ.out.base.ent r (List.mem_of_getElem? HRD.out) v (List.mem_of_getElem? HV.out)
              have hdv := HDS.out.distAt hvN
              have hI2 : (v : Int) < (G.N : Int) := by omega
              clear HCJ hv hv2
              by_cases hfv : f v = (d : Nat)
              · have hx : (f v != (d : Int)) = false := by simpa using hfv
                have HDP0 : Hid (DP G D f rows d j v 0) := HDJ.out.enter HRD.out HV.out hfv
                have HGR : Hid (GAt wr bc bh br bp ba G) := HG.out.below HDS.out.bel
                have c9' := HGR.out.arcs
                obtain ⟨aa, ac, hca, hcb⟩ := HGR.out.adj v hvN
                have HAB : Hid (0 < (G.adj v).length → ∃ g, aa = some ⟨g, 0, none⟩ ∧ g < w.heap.size ∧ ∀ t (ht : t < (G.adj v).length), w.cell? ⟨g, t, none⟩ = some (.int .i32 ((G.adj v)[t] : Nat))) := by
                  intro hp
                  obtain ⟨va', vc', h1', h2'⟩ := HG.out.adj v hvN
                  have h3' := (HDS.out.bel.cell (p := ⟨ba, v, none⟩) (World.block_lt_of_cell? w _ h1')).trans h1'
                  rw [hca] at h3'
                  simp at h3'
                  obtain ⟨g, h4', h5'⟩ := h2' hp
                  exact ⟨g, by rw [h3'.1, h4'], World.block_lt_of_cell? w _ (h5' 0 hp), h5'⟩
                obtain ⟨al, hal⟩ : ∃ al, (G.adj v).length = al := ⟨_, rfl⟩
                rw [hal] at hca
                have HAL : Hid ((G.adj v).length = al) := hal
                have halb : al ≤ 100000 := by rw [← hal]; exact HG.out.adl v hvN
                obtain ⟨K, hK⟩ : ∃ K, gk + j = K := ⟨_, rfl⟩
                have HK : Hid (gk + j = K) := hK
                clear hcb hal hK
                go_wp2_with fail
                go_loopg [5, 76] al (fun gk tvv iv wr => ∃ (t : Nat) (f : Nat → Int) (rows : List (List Nat)) (r' : List Nat), t + gk = al ∧ iv = .int .i64 (t : Nat) ∧ DS w G.N wr tvv f rows ∧ DP G D f rows d j v t ∧ rows[d]? = some r' ∧ phi f G.N + r'.length ≤ K ∧ PB G.N f rows)
                case atStart => exact ⟨0, f, rows, r, by omega, rfl, HDS.out, HDP0.out, HRD.out, by have := HGK.out; have := HK.out; omega, HPB.out⟩
                case round =>
                  clear HDS HDJ HDP0 HGR c9' hca hcv hcx HPB HRD HRR HV hdv HGK hx hrl hI1 hfv
                  obtain ⟨t, f, rows, r', htg, rfl, hds, hdp, hrd, hph, hpb⟩ := hrel
                  have HTG : Hid (t + gk = al) := htg
                  obtain ⟨gt, cap, rfl⟩ := hds.shp
                  have HDS : Hid (DS w G.N wr _ f rows) := hds
                  have HDP : Hid (DP G D f rows d j v t) := hdp
                  have HRD : Hid (rows[d]? = some r') := hrd
                  have HPH : Hid (phi f G.N + r'.length ≤ K) := hph
                  have HPB : Hid (PB G.N f rows) := hpb
                  have hrl := hdp.base.len
                  have hdl : d < rows.length := (List.getElem?_eq_some_iff.1 hrd).1
                  have hrb := hpb r' (List.mem_of_getElem? hrd)
                  have htle : t ≤ al := by omega
                  clear hds hdp hrd hph hpb htg
                  by_cases htl : t < al
                  · have hI : (t : Int) < (al : Int) := by omega
                    obtain ⟨ga, hga, hgl, hgc⟩ := HAB.out (by have := HAL.out; omega)
                    subst hga
                    obtain ⟨i, hie⟩ : ∃ i, (G.adj v)[t]'(by have := HAL.out; omega) = i := ⟨_, rfl⟩
                    have hci : wr.cell? ⟨ga, t, none⟩ = some (.int .i32 (i : Nat)) := by
                      rw [← hie]
                      exact (HDS.out.bel.cell (p := ⟨ga, t, none⟩) hgl).trans (hgc t _)
                    have HIE : Hid ((G.adj v)[t]'(by have := HAL.out; omega) = i) := hie
                    have hmem : i ∈ G.adj v := by rw [← hie]; exact List.getElem_mem _
                    have hi6 := (HO.out.arc v hvN i hmem).1
                    have hiN := (HO.out.arc v hvN i hmem).2
                    have HGR : Hid (GAt wr bc bh br bp ba G) := HG.out.below HDS.out.bel
                    have HIM : Hid (i ∈ G.adj v) := hmem
                    clear hgc hie hmem
                    have hI6 : (i : Int) < ((6 * G.m : Nat) : Int) := by omega
                    have hcb1 : cost G.m i ≤ 1 := cost_le _ _
                    have hcb2 : -1 ≤ cost G.m i := by unfold cost; split <;> (try split) <;> omega
                    go_upto_region 20 with fail
                    go_cut [11, 12] (fun wv zv wx => wv = .int .i32 (G.hd i : Nat) ∧ (∃ z : Int, zv = .int .i64 z ∧ z = (d : Int) + cost G.m i) ∧ ∃ m, wx = wr.drewN m)
                    case first =>
                      have c0' := HGR.out.head
                      have chi := HGR.out.hd i hi6
                      go_quiet ((go_at_call 23; exact Calls.quiet_of (reduced bc bh br bp ba G i _ (HGR.out.drewN _) hi6)))
                      go_wp2_with fail
                      go_meet
                      exact ⟨rfl, ⟨_, rfl, by first | rfl | exact IntWalk.i64_in _ (by omega)⟩, _, rfl⟩
                    case rest =>
                      obtain ⟨rfl, ⟨z, rfl, hz⟩, m5, hw5⟩ := hcut
                      rename World => w5
                      have HDS5 : Hid (DS w G.N w5 (.slice (some ⟨gt, 0, none⟩) rows.length cap) f rows) := by rw [hw5]; exact HDS.out.drewN m5
                      have HGR5 : Hid (GAt w5 bc bh br bp ba G) := by rw [hw5]; exact HGR.out.drewN m5
                      clear hw5 HDS HGR hci
                      obtain ⟨x, hxe⟩ : ∃ x, G.hd i = x := ⟨_, rfl⟩
                      rw [hxe] at hiN
                      have HX : Hid (G.hd i = x) := hxe
                      rw [hxe]
                      have c2 := HGR5.out.room
                      have cr := HGR5.out.rm i hi6
                      have cx := HDS5.out.distAt hiN
                      have cfz := HDS5.out.distFree
                      have hIx : (x : Int) < (G.N : Int) := by omega
                      obtain ⟨rmi, hrm⟩ : ∃ y, G.rm i = y := ⟨_, rfl⟩
                      rw [hrm] at cr
                      obtain ⟨fx, hfx⟩ : ∃ y, f x = y := ⟨_, rfl⟩
                      rw [hfx] at cx
                      have HRM : Hid (G.rm i = rmi) := hrm
                      have HFX : Hid (f x = fx) := hfx
                      have HZ : Hid (z = (d : Int) + cost G.m i) := hz
                      clear hxe hrm hfx hz
                      by_cases hr0 : rmi ≤ 0
                      · have HN : Hid (DP G D f rows d j v (t + 1)) := HDP.out.skip (by have := HAL.out; omega) (fun h => by rw [HIE.out, HRM.out] at h; omega)
                        go_wp2
                        go_roundg (gk - 1)
                        case measure => have := HTG.out; omega
                        case rel => exact ⟨t + 1, f, rows, r', by have := HTG.out; omega, by go_num, HDS5.out, HN.out, HRD.out, HPH.out, HPB.out⟩
                      · by_cases hsk : 0 ≤ fx ∧ fx ≤ z
                        · obtain ⟨hs1, hs2⟩ := hsk
                          have hs1' : fx ≥ 0 := hs1
                          have HN : Hid (DP G D f rows d j v (t + 1)) := HDP.out.skip (by have := HAL.out; omega) (fun _ => by rw [HIE.out, HX.out, HFX.out]; have := HZ.out; omega)
                          go_wp2
                          go_roundg (gk - 1)
                          case measure => have := HTG.out; omega
                          case rel => exact ⟨t + 1, f, rows, r', by have := HTG.out; omega, by go_num, HDS5.out, HN.out, HRD.out, HPH.out, HPB.out⟩
                        · have hto := HDP.out.nextD HO.out HIM.out (by rw [HRM.out]; omega)
                          have hz2 := HZ.out
                          obtain ⟨tt, htt⟩ : ∃ tt : Nat, z = (tt : Nat) := ⟨z.toNat, by omega⟩
                          have htt1 : tt ≤ 1 := by omega
                          have htl2 : tt ≤ rows.length := by omega
                          have HC : Hid (fx < 0 ∨ (tt : Int) < fx) := by show fx < 0 ∨ (tt : Int) < fx; omega
                          have HTT : Hid ((tt : Int) = (d : Int) + cost G.m i) := by show (tt : Int) = _; omega
                          subst htt
                          have HPO : Hid (pot (tt : Nat) < pot (f x)) := by show pot (tt : Nat) < pot (f x); rw [HFX.out]; exact pot_down HC.out htt1
                          have HN : Hid (DP G D (upd f x (tt : Nat)) (put (pad rows tt) tt x) d j v (t + 1)) := by
                            have hp := HDP.out.push HO.out HBE.out (tt := tt) (t := t) (by have := HAL.out; omega) (by rw [HIE.out, HRM.out]; omega) (by rw [HIE.out]; exact HTT.out) (by rw [HIE.out, HX.out, HFX.out]; exact HC.out)
                            rw [HIE.out, HX.out] at hp
                            exact hp
                          have HPB2 : Hid (PB G.N (upd f x (tt : Nat)) (put (pad rows tt) tt x)) := pb_push HPB.out hiN HPO.out (by omega)
                          clear hto hz2 HZ
                          go_upto_region 21 with fail
                          go_cut [116] (fun bv wx => bv = .bool false ∧ wx = w5)
                          case first =>
                            by_cases hneg : fx ≥ 0
                            · have hs2 : ¬ fx ≤ (tt : Int) := by have := HC.out; omega
                              clear hsk
                              go_wp2_with fail
                              go_meet
                              exact ⟨rfl, rfl⟩
                            · clear hsk
                              go_wp2_with fail
                              go_meet
                              exact ⟨rfl, rfl⟩
                          case rest =>
                            obtain ⟨rfl, rfl⟩ := hcut
                            rename World => w5
                            clear hsk
                            have HDS6 : Hid (DS w G.N (w5.setCell ⟨w.heap.size, x, none⟩ (.int .i64 (tt : Nat))) (.slice (some ⟨gt, 0, none⟩) rows.length cap) (upd f x (tt : Nat)) rows) := HDS5.out.setDist x (tt : Nat)
                            clear HDS5 HGR5
                            go_upto_block 8 with fail
                            generalize w5.setCell ⟨w.heap.size, x, none⟩ (.int .i64 (tt : Nat)) = w6 at *
                            clear cx cr c2 cfz
                            go_cut [5] (fun tvv wx => DS w G.N wx tvv (upd f x (tt : Nat)) (pad rows tt))
                            case first =>
                              go_wp2_with fail
                              go_loopg [5] (if rows.length ≤ tt then 1 else 0) (fun gk tvv wr => (gk = 1 ∧ rows.length ≤ tt ∧ DS w G.N wr tvv (upd f x (tt : Nat)) rows) ∨ (gk = 0 ∧ DS w G.N wr tvv (upd f x (tt : Nat)) (pad rows tt)))
                              case atStart =>
                                by_cases hp : rows.length ≤ tt
                                · rw [if_pos hp]; exact .inl ⟨rfl, hp, HDS6.out⟩
                                · rw [if_neg hp]
                                  refine .inr ⟨rfl, ?_⟩
                                  have : pad rows tt = rows := by unfold pad; rw [if_neg hp]
                                  rw [this]
                                  exact HDS6.out
                              case round =>
                                clear HDS6
                                rcases hrel with ⟨hg1, hp, hds⟩ | ⟨hg0, hds⟩
                                · have HG1 : Hid (gk = 1) := hg1
                                  obtain ⟨gt2, cap2, rfl⟩ := hds.shp
                                  have hI7 : (rows.length : Int) ≤ (tt : Int) := by omega
                                  obtain ⟨vs, htab⟩ := hds.tab
                                  have htab2 := htab.alloc (.cells #[.slice none 0 0] 34)
                                  have hds2 := hds.alloc (.cells #[.slice none 0 0] 34)
                                  have hsz := hds2.sz
                                  have HD2 : Hid (DS w G.N (wr.alloc (.cells #[.slice none 0 0] 34)) _ (upd f x (tt : Nat)) rows) := hds2
                                  have HT2 : Hid (Tab (wr.alloc (.cells #[.slice none 0 0] 34)) _ _ _ _ vs rows) := htab2
                                  have hpad : Hid (pad rows tt = rows ++ [[]]) := by show pad rows tt = _; unfold pad; rw [if_pos hp]
                                  clear hg1 hds htab hds2 htab2
                                  go_wp2_with (at_builtin; refine wpList_append_one _ rfl (.tmp 125) (.tmp 126) 35 rfl w.heap.size 34 i34 (.slice none 0 0) 24 Yba.underlying35 hi34 hz340 hz341 hz342 rfl _ _ _ rfl HT2.out.own _ _ (.slice none 0 0) rfl ?a1 rfl ?a2 ?a3 hsz ?_)
                                  case a1 => simp
                                  case a2 => unfold maxLen; omega
                                  case a3 => omega
                                  intro v7 w7 ho7 hg7 _
                                  have HD7 : Hid (DS w G.N w7 v7 (upd f x (tt : Nat)) (rows ++ [[]])) := HD2.out.padded HT2.out ho7 hg7
                                  clear ho7 hg7
                                  go_wp2
                                  go_roundg 0
                                  case measure => have := HG1.out; omega
                                  case rel => exact .inr ⟨rfl, by rw [hpad.out]; exact HD7.out⟩
                                · obtain ⟨gt2, cap2, rfl⟩ := hds.shp
                                  have hpl := pad_lt htl2
                                  have hI7 : ¬ ((pad rows tt).length : Int) ≤ (tt : Int) := by omega
                                  have HD2 : Hid (DS w G.N wr _ (upd f x (tt : Nat)) (pad rows tt)) := hds
                                  clear hds
                                  go_wp2_with fail
                                  go_meet
                                  exact HD2.out
                            case rest =>
                              have hds := hcut
                              clear hcut HDS6
                              rename World => w8
                              obtain ⟨gt2, cap2, rfl⟩ := hds.shp
                              have hpl := pad_lt htl2
                              have hI8 : (tt : Int) < ((pad rows tt).length : Int) := by omega
                              obtain ⟨vs, htab⟩ := hds.tab
                              obtain ⟨v9, rt, hv9, hr9, ho9⟩ : ∃ v rt, vs[tt]? = some v ∧ (pad rows tt)[tt]? = some rt ∧ w8.ownsRow w.heap.size 21 1 v rt.length (ic rt) := by
                                obtain ⟨v, h1, h2, h3⟩ := htab.at hpl
                                exact ⟨v, _, h1, h2, h3⟩
                              have hc9 := htab.own.cellAt tt (by omega)
                              rw [hv9] at hc9
                              have hf9 := htab.own.frozenAt
                              have HV9 : Hid (vs[tt]? = some v9) := hv9
                              have HR9 : Hid ((pad rows tt)[tt]? = some rt) := hr9
                              have htab2 := htab.alloc (.cells #[.int .i32 (x : Nat)] 21)
                              have ho92 := ho9.alloc (.cells #[.int .i32 (x : Nat)] 21)
                              have hds2 := hds.alloc (.cells #[.int .i32 (x : Nat)] 21)
                              have hsz := hds2.sz
                              have HD2 : Hid (DS w G.N (w8.alloc (.cells #[.int .i32 (x : Nat)] 21)) _ (upd f x (tt : Nat)) (pad rows tt)) := hds2
                              have HT2 : Hid (Tab (w8.alloc (.cells #[.int .i32 (x : Nat)] 21)) _ _ _ _ vs (pad rows tt)) := htab2
                              have hrb9 : rt.length ≤ 100000 := by
                                have := pb_pad HPB.out _ (List.mem_of_getElem? hr9)
                                omega
                              have own1 : ∀ w' : World, (w8.alloc (.cells #[.int .i32 (x : Nat)] 21)).grownBy w' v9.ownBlock → w'.ownsRow w.heap.size 34 1 (.slice (some ⟨gt2, 0, none⟩) (pad rows tt).length cap2) (pad rows tt).length vs := fun w' hg => htab2.own.kept hg (own_ne htab2.own ho92 (by decide))
                              have OWN1 : Hid (∀ w' : World, (w8.alloc (.cells #[.int .i32 (x : Nat)] 21)).grownBy w' v9.ownBlock → w'.ownsRow w.heap.size 34 1 (.slice (some ⟨gt2, 0, none⟩) (pad rows tt).length cap2) (pad rows tt).length vs) := own1
                              have hc92 : (w8.alloc (.cells #[.int .i32 (x : Nat)] 21)).cell? ⟨gt2, tt, none⟩ = some v9 := by
                                rw [htab2.own.cellAt tt (by omega)]; exact hv9
                              clear hds htab hv9 hr9 ho9 htab2 hds2 own1
                              go_wp2_with (at_builtin; refine wpList_append_one _ rfl (.tmp 133) (.tmp 135) 34 rfl w.heap.size 21 i21 (.int .i32 0) 4 Yba.underlying34 hi21 hz210 hz211 hz212 rfl _ _ _ rfl ho92 _ _ (.int .i32 (x : Nat)) rfl ?a1 rfl ?a2 ?a3 hsz ?_)
                              case a2 => unfold maxLen; omega
                              case a3 => omega
                              intro v10 w10 ho10 hg10 hf10
                              obtain ⟨g10, c10, rfl⟩ : ∃ g c, v10 = .slice (some ⟨g, 0, none⟩) (rt.length + 1) c := by
                                rcases ho10.2 with ⟨_, h0⟩ | ⟨g, cp, cur, hv, _⟩
                                · omega
                                · exact ⟨g, cp, hv⟩
                              have HD10 : Hid (DS w G.N (w10.setCell ⟨gt2, tt, none⟩ (.slice (some ⟨g10, 0, none⟩) (rt.length + 1) c10)) (.slice (some ⟨gt2, 0, none⟩) (pad rows tt).length cap2) (upd f x (tt : Nat)) (put (pad rows tt) tt x)) := HD2.out.pushed HT2.out HV9.out HR9.out ho10 hg10 (by simpa using hf10)
                              have hown := OWN1.out w10 hg10
                              have hc10 := hown.cellAt tt (by omega)
                              rw [HV9.out] at hc10
                              have hf11 := hown.frozenAt
                              clear hc9 hf9 hc92 ho92 ho10 hg10 hf10 hown
                              go_wp2
                              go_roundg (gk - 1)
                              case measure => have := HTG.out; omega
                              case rel =>
                                obtain ⟨r2, hr2, hl2⟩ := put_len (k := tt) (x := x) HRD.out
                                have hph2 := phi_upd f x (tt : Nat) HPO.out G.N hiN
                                exact ⟨t + 1, _, _, r2, by have := HTG.out; omega, by go_num, HD10.out, HN.out, hr2, by have := HPH.out; omega, HPB2.out⟩
                  · have hI : ¬ (t : Int) < (al : Int) := by omega
                    have hta : t = al := by omega
                    have HN : Hid (DJ G D f rows d (j + 1)) := by
                      have h := HDP.out
                      rw [hta, ← HAL.out] at h
                      exact h.leave HO.out
                    have hjr2 : j < r'.length := by
                      obtain ⟨r3, h31, h32⟩ := HDP.out.row
                      rw [HRD.out] at h31
                      simp at h31
                      subst h31
                      exact (List.getElem?_eq_some_iff.1 h32).1
                    clear hta
                    go_wp2
                    go_roundg (phi f G.N + r'.length - (j + 1))
                    case measure => have := HPH.out; have := HK.out; omega
                    case rel => exact ⟨j + 1, f, rows, r', by go_num, HDS.out, HN.out, HRD.out, by omega, by omega, HPB.out⟩
              · have hx : (f v != (d : Int)) = true := by simpa using hfv
                have HDN : Hid (DJ G D f rows d (j + 1)) := HDJ.out.skip HRD.out HV.out hfv
                go_wp2
                go_roundg (gk - 1)
                case measure => have := HGK.out; omega
                case rel => exact ⟨j + 1, f, rows, r, by go_num, HDS.out, HDN.out, HRD.out, by omega, by have := HGK.out; omega, HPB.out⟩
            · have hI : ¬ (j : Int) < (r.length : Int) := by omega
              have HDN : Hid (DJ G D f rows (d + 1) 0) := HDJ.out.next HRD.out (by omega)
              go_wp2
              go_roundg (2 - (d + 1))
              case measure => have := HDG.out; omega
              case rel => exact ⟨d + 1, f, rows, by omega, by go_num, HDS.out, HDN.out, HPB.out⟩
        · have hI : ¬ (d : Int) < (rows.length : Int) := by omega
          go_wp2_with fail
          go_meet
          exact ⟨_, rows, f, d, HDS.out, HDJ.out, by omega⟩
    case rest =>
      obtain ⟨tv, rows, f, d, hds, hdj, hrd⟩ := hcut
      have HDS : Hid (DS w G.N wc tv f rows) := hds
      have HF : Hid (∀ x, x < G.N → f x = D x) := hdj.fin HBE.out hrd
      clear hds hdj
      go_wp2
      go_ret
      exact ⟨rfl, fun x hx => by rw [← HF.out x hx]; exact HDS.out.distAt hx, HDS.out.bel⟩
end Go.Proofs.Ybulkcmrw.W
