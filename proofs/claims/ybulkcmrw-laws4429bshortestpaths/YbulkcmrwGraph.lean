/-
  Distances on a graph whose arcs cost 0 or 1: two ways to find them come to one end. No Go in sight.
-/
import Derived.WalkKit
namespace Go.Proofs.Ybulkcmrw.G

/-- What arc i costs in a clearing over m debts. -/
def cost (m i : Nat) : Int := if 2 * m ≤ i then 0 else if i % 2 = 0 then -1 else 1

structure Gr where
  N : Nat
  m : Nat
  src : Nat
  hd : Nat → Nat
  rm : Nat → Int
  adj : Nat → List Nat

/-- An arc with room. -/
def Edge (G : Gr) (v w : Nat) (c : Int) : Prop := ∃ i ∈ G.adj v, 0 < G.rm i ∧ G.hd i = w ∧ cost G.m i = c

/-- The graph is as newClearing lays it. -/
structure Ok (G : Gr) : Prop where
  src : G.src < G.N
  arc : ∀ v, v < G.N → ∀ i ∈ G.adj v, i < 6 * G.m ∧ G.hd i < G.N
  pos : ∀ i, 0 < G.rm i → 0 ≤ cost G.m i
  fast : ∀ y w, y < G.N → Edge G y w 1 → Edge G G.src y 0

theorem cost_le (m i : Nat) : cost m i ≤ 1 := by unfold cost; split <;> (try split) <;> omega
theorem Edge.cost01 {G : Gr} (hG : Ok G) {v w : Nat} {c : Int} (h : Edge G v w c) : c = 0 ∨ c = 1 := by
  obtain ⟨i, _, h2, _, h4⟩ := h
  have h5 := hG.pos i h2
  have h6 := cost_le G.m i
  omega
theorem Edge.lt {G : Gr} (hG : Ok G) {v w : Nat} {c : Int} (hv : v < G.N) (h : Edge G v w c) : w < G.N := by
  obtain ⟨i, h1, _, h3, _⟩ := h
  rw [← h3]; exact (hG.arc v hv i h1).2

/-- The distances, by levels. -/
structure Best (G : Gr) (D : Nat → Int) (lv : Nat → Nat) : Prop where
  src : D G.src = 0
  low : ∀ x, D x = -1 ∨ 0 ≤ D x
  rel : ∀ v w c, v < G.N → Edge G v w c → 0 ≤ D v → 0 ≤ D w ∧ D w ≤ D v + c
  pre : ∀ x, x < G.N → 0 ≤ D x → x = G.src ∨ ∃ y c, y < G.N ∧ Edge G y x c ∧ 0 ≤ D y ∧ D x = D y + c ∧ lv y < lv x
  lvl : ∀ x, x < G.N → 0 ≤ D x → lv x ≤ G.N
  lsrc : lv G.src = 0

def Snd (D f : Nat → Int) : Prop := ∀ x, 0 ≤ f x → 0 ≤ D x ∧ D x ≤ f x
def upd (f : Nat → Int) (w : Nat) (z : Int) : Nat → Int := fun x => if x = w then z else f x
theorem upd_same (f : Nat → Int) (w : Nat) (z : Int) : upd f w z w = z := by simp [upd]
theorem upd_other (f : Nat → Int) {w x : Nat} (z : Int) (h : x ≠ w) : upd f w z x = f x := by simp [upd, h]

/-- A relaxation. -/
structure Step (f f' : Nat → Int) : Prop where
  down : ∀ x, 0 ≤ f x → 0 ≤ f' x ∧ f' x ≤ f x

theorem Step.refl (f : Nat → Int) : Step f f := ⟨fun _ h => ⟨h, Int.le_refl _⟩⟩
theorem step_upd {f : Nat → Int} {w : Nat} {z : Int} (hz : 0 ≤ z) (h : f w < 0 ∨ z < f w) : Step f (upd f w z) := by
  refine ⟨fun x hx => ?_⟩
  by_cases e : x = w
  · subst e; rw [upd_same]; omega
  · rw [upd_other f z e]; omega

section
variable {G : Gr} {D : Nat → Int} {lv : Nat → Nat}

theorem snd_upd (hB : Best G D lv) {f : Nat → Int} (hs : Snd D f) {v w : Nat} {c : Int} (hv : v < G.N) (he : Edge G v w c) (hf : 0 ≤ f v) : Snd D (upd f w (f v + c)) ∧ 0 ≤ f v + c := by
  have h1 := hs v hf
  have h2 := hB.rel v w c hv he h1.1
  refine ⟨fun x hx => ?_, by omega⟩
  by_cases e : x = w
  · subst e; rw [upd_same]; omega
  · rw [upd_other _ _ e] at hx ⊢; exact hs x hx

/-- Sound and relaxed is right. -/
theorem best_of (hB : Best G D lv) {f : Nat → Int} (hs : Snd D f) (h0 : f G.src = 0) (hr : ∀ v, v < G.N → 0 ≤ f v → ∀ w c, Edge G v w c → 0 ≤ f w ∧ f w ≤ f v + c) : ∀ (n : Nat) (x : Nat), x < G.N → 0 ≤ D x → lv x ≤ n → f x = D x := by
  intro n
  induction n with
  | zero =>
    intro x hx hd hl
    rcases hB.pre x hx hd with rfl | ⟨y, c, _, _, _, _, h6⟩
    · rw [h0, hB.src]
    · omega
  | succ n ih =>
    intro x hx hd hl
    rcases hB.pre x hx hd with rfl | ⟨y, c, hy, he, hdy, hxy, h6⟩
    · rw [h0, hB.src]
    · have h1 := ih y hy hdy (by omega)
      have h2 := hr y hy (by omega) x c he
      have h3 := hs x h2.1
      omega
theorem all_of (hB : Best G D lv) {f : Nat → Int} (hs : Snd D f) (hv : ∀ x, f x = -1 ∨ 0 ≤ f x) (hc : ∀ x, x < G.N → 0 ≤ D x → f x = D x) : ∀ x, x < G.N → f x = D x := by
  intro x hx
  by_cases h : 0 ≤ D x
  · exact hc x hx h
  · have h1 : ¬ 0 ≤ f x := fun h2 => h (hs x h2).1
    rcases hv x with h2 | h2
    · rcases hB.low x with h3 | h3
      · rw [h2, h3]
      · exact absurd h3 h
    · exact absurd h2 h1

/-! The law's own way: rounds over all nodes. -/

/-- Behind k rounds. -/
def Cmp (G : Gr) (D : Nat → Int) (lv : Nat → Nat) (k : Nat) (f : Nat → Int) : Prop := ∀ x, x < G.N → 0 ≤ D x → lv x ≤ k → f x = D x
/-- In round k, the nodes before v done. -/
def Part (G : Gr) (D : Nat → Int) (lv : Nat → Nat) (k v : Nat) (f : Nat → Int) : Prop := ∀ y x c, y < v → y < G.N → Edge G y x c → 0 ≤ D y → lv y ≤ k → 0 ≤ f x ∧ f x ≤ D y + c
/-- .. and of node v the first t arcs. -/
def Arcs (G : Gr) (v t : Nat) (f : Nat → Int) : Prop := ∀ i ∈ (G.adj v).take t, 0 < G.rm i → 0 ≤ f (G.hd i) ∧ f (G.hd i) ≤ f v + cost G.m i

structure BF (G : Gr) (D : Nat → Int) (lv : Nat → Nat) (k v : Nat) (f : Nat → Int) : Prop where
  snd : Snd D f
  val : ∀ x, f x = -1 ∨ 0 ≤ f x
  cmp : Cmp G D lv k f
  part : Part G D lv k v f

theorem BF.start (hB : Best G D lv) : BF G D lv 0 0 (upd (fun _ => -1) G.src 0) := by
  refine ⟨fun x hx => ?_, fun x => ?_, fun x hx hd hl => ?_, fun y x c hy => by omega⟩
  · by_cases e : x = G.src
    · subst e; rw [upd_same]; have := hB.src; omega
    · rw [upd_other _ _ e] at hx; omega
  · by_cases e : x = G.src
    · subst e; rw [upd_same]; omega
    · rw [upd_other _ _ e]; omega
  · rcases hB.pre x hx hd with rfl | ⟨y, c, _, _, _, _, h6⟩
    · rw [upd_same, hB.src]
    · omega
theorem BF.round (hB : Best G D lv) {k : Nat} {f : Nat → Int} (h : BF G D lv k G.N f) : BF G D lv (k + 1) 0 f := by
  refine ⟨h.snd, h.val, fun x hx hd hl => ?_, fun y x c hy => by omega⟩
  by_cases hk : lv x ≤ k
  · exact h.cmp x hx hd hk
  · rcases hB.pre x hx hd with rfl | ⟨y, c, hy, he, hdy, hxy, h6⟩
    · have := hB.lsrc; omega
    · have h1 := h.part y x c hy hy he hdy (by omega)
      have h2 := h.snd x h1.1
      omega

/-- An arc that has no room, or does not shorten: nothing changes. -/
theorem Arcs.skip {v t : Nat} {f : Nat → Int} (h : Arcs G v t f) (ht : t < (G.adj v).length) (hs : 0 < G.rm (G.adj v)[t] → 0 ≤ f (G.hd (G.adj v)[t]) ∧ f (G.hd (G.adj v)[t]) ≤ f v + cost G.m (G.adj v)[t]) : Arcs G v (t + 1) f := by
  intro i hi hr
  rw [List.take_succ_eq_append_getElem ht, List.mem_append] at hi
  rcases hi with hi | hi
  · exact h i hi hr
  · simp at hi; subst hi; exact hs hr
theorem Arcs.step {v t : Nat} {f f' : Nat → Int} (h : Arcs G v t f) (hs : Step f f') (hv : f' v = f v) : Arcs G v t f' := by
  intro i hi hr
  have h1 := h i hi hr
  have h2 := hs.down _ h1.1
  rw [hv]; omega
theorem Arcs.zero (v : Nat) (f : Nat → Int) : Arcs G v 0 f := by intro i hi; simp at hi
theorem Arcs.all {v : Nat} {f : Nat → Int} (h : Arcs G v (G.adj v).length f) : ∀ w c, Edge G v w c → 0 ≤ f w ∧ f w ≤ f v + c := by
  rintro w c ⟨i, h1, h2, rfl, rfl⟩
  rw [Arcs, List.take_length] at h
  exact h i h1 h2

/-- One arc of the law's own way, taken. -/
theorem BF.take (hG : Ok G) (hB : Best G D lv) {k v i : Nat} {f : Nat → Int} (h : BF G D lv k v f) (hv : v < G.N) (hi : i ∈ G.adj v) (hr : 0 < G.rm i) (hf : 0 ≤ f v) (hc : f (G.hd i) < 0 ∨ f v + cost G.m i < f (G.hd i)) :
    BF G D lv k v (upd f (G.hd i) (f v + cost G.m i)) ∧ Step f (upd f (G.hd i) (f v + cost G.m i)) ∧ upd f (G.hd i) (f v + cost G.m i) v = f v := by
  have he : Edge G v (G.hd i) (cost G.m i) := ⟨i, hi, hr, rfl, rfl⟩
  have hs := snd_upd hB h.snd hv he hf
  have hst := step_upd hs.2 hc
  have hne : v ≠ G.hd i := by
    intro e
    rw [← e] at hc
    have := hG.pos i hr
    omega
  refine ⟨⟨hs.1, fun x => ?_, fun x hx hd hl => ?_, fun y x c hy hyn hey hdy hly => ?_⟩, hst, upd_other _ _ hne⟩
  · by_cases e : x = G.hd i
    · rw [e, upd_same]; exact .inr hs.2
    · rw [upd_other _ _ e]; exact h.val x
  · have h1 := h.cmp x hx hd hl
    by_cases e : x = G.hd i
    · exfalso
      rw [← e] at hc
      have h2 := h.snd v hf
      rw [← e] at he
      have h3 := hB.rel v x _ hv he h2.1
      omega
    · rw [upd_other _ _ e]; exact h1
  · have h1 := h.part y x c hy hyn hey hdy hly
    have h2 := hst.down x h1.1
    omega
theorem BF.node {k v : Nat} {f : Nat → Int} (h : BF G D lv k v f) (ha : 0 ≤ f v → Arcs G v (G.adj v).length f) : BF G D lv k (v + 1) f := by
  refine ⟨h.snd, h.val, h.cmp, fun y x c hy hyn hey hdy hly => ?_⟩
  by_cases e : y = v
  · subst e
    have h1 := h.cmp y hyn hdy hly
    have h2 := (ha (by omega)).all x c hey
    omega
  · exact h.part y x c (by omega) hyn hey hdy hly
theorem BF.fin (hB : Best G D lv) {f : Nat → Int} (h : BF G D lv G.N 0 f) : ∀ x, x < G.N → f x = D x :=
  all_of hB h.snd h.val (fun x hx hd => h.cmp x hx hd (hB.lvl x hx hd))

/-! distances: nodes wait in a row for each distance. -/

def Rlx (G : Gr) (f : Nat → Int) (x : Nat) : Prop := ∀ w c, Edge G x w c → 0 ≤ f w ∧ f w ≤ f x + c
def Pend (f : Nat → Int) (rows : List (List Nat)) (d j x : Nat) : Prop := ∃ (r : List Nat) (p : Nat), rows[(f x).toNat]? = some r ∧ r[p]? = some x ∧ (d < (f x).toNat ∨ d = (f x).toNat ∧ j ≤ p)

theorem Rlx.step {f f' : Nat → Int} {x : Nat} (h : Rlx G f x) (hs : Step f f') (hx : f' x = f x) : Rlx G f' x := by
  intro w c he
  have h1 := h w c he
  have h2 := hs.down w h1.1
  rw [hx]; omega

/-- What holds of the distances and the rows. -/
structure Base (G : Gr) (D : Nat → Int) (f : Nat → Int) (rows : List (List Nat)) : Prop where
  src0 : f G.src = 0
  val : ∀ x, f x = -1 ∨ (0 ≤ f x ∧ f x ≤ 1)
  snd : Snd D f
  ent : ∀ r ∈ rows, ∀ x ∈ r, x < G.N
  len : rows.length ≤ 2
  fst : ∃ r0, rows[0]? = some (G.src :: r0)

/-- At place j of row d. -/
structure DJ (G : Gr) (D f : Nat → Int) (rows : List (List Nat)) (d j : Nat) : Prop where
  base : Base G D f rows
  pen : ∀ x, x < G.N → 0 ≤ f x → Rlx G f x ∨ Pend f rows d j x
  fast : d ≠ 0 ∨ j ≠ 0 → ∀ y w, y < G.N → Edge G y w 1 → f y = 0

/-- .. with t arcs of that place's node v done. -/
structure DP (G : Gr) (D f : Nat → Int) (rows : List (List Nat)) (d j v t : Nat) : Prop where
  base : Base G D f rows
  row : ∃ r, rows[d]? = some r ∧ r[j]? = some v
  fv : f v = (d : Nat)
  pen : ∀ x, x < G.N → x ≠ v → 0 ≤ f x → Rlx G f x ∨ Pend f rows d (j + 1) x
  fast : d ≠ 0 ∨ j ≠ 0 → ∀ y w, y < G.N → Edge G y w 1 → f y = 0
  arcs : Arcs G v t f

theorem DJ.start (hB : Best G D lv) (hG : Ok G) : DJ G D (upd (fun _ => -1) G.src 0) [[G.src]] 0 0 := by
  refine ⟨⟨upd_same _ _ _, fun x => ?_, fun x hx => ?_, ?_, by simp, ⟨[], rfl⟩⟩, fun x _ hx => ?_, fun h => by omega⟩
  · by_cases e : x = G.src
    · subst e; rw [upd_same]; omega
    · rw [upd_other _ _ e]; omega
  · by_cases e : x = G.src
    · subst e; rw [upd_same]; have := hB.src; omega
    · rw [upd_other _ _ e] at hx; omega
  · intro r hr x hx
    simp at hr
    subst hr
    simp at hx
    subst hx
    exact hG.src
  · right
    by_cases e : x = G.src
    · subst e
      exact ⟨[G.src], 0, by rw [upd_same]; rfl, rfl, by rw [upd_same]; simp⟩
    · rw [upd_other _ _ e] at hx; omega

theorem DJ.skip {f : Nat → Int} {rows : List (List Nat)} {d j v : Nat} {r : List Nat} (h : DJ G D f rows d j) (hr : rows[d]? = some r) (hj : r[j]? = some v) (hv : f v ≠ (d : Nat)) : DJ G D f rows d (j + 1) := by
  refine ⟨h.base, fun x hx hf => ?_, fun _ => ?_⟩
  · rcases h.pen x hx hf with h1 | ⟨r', p, h1, h2, h3⟩
    · exact .inl h1
    · right
      refine ⟨r', p, h1, h2, ?_⟩
      rcases h3 with h3 | ⟨h3, h4⟩
      · exact .inl h3
      · right
        refine ⟨h3, ?_⟩
        by_cases e : p = j
        · exfalso
          subst e
          rw [← h3, hr] at h1
          simp at h1
          subst h1
          rw [hj] at h2
          simp at h2
          subst h2
          omega
        · omega
  · apply h.fast
    by_cases hd : d = 0
    · right
      intro e
      subst hd e
      obtain ⟨r0, h0⟩ := h.base.fst
      rw [hr] at h0
      simp at h0
      subst h0
      simp at hj
      subst hj
      exact hv (by rw [h.base.src0]; rfl)
    · exact .inl hd

theorem DJ.enter {f : Nat → Int} {rows : List (List Nat)} {d j v : Nat} {r : List Nat} (h : DJ G D f rows d j) (hr : rows[d]? = some r) (hj : r[j]? = some v) (hv : f v = (d : Nat)) : DP G D f rows d j v 0 := by
  refine ⟨h.base, ⟨r, hr, hj⟩, hv, fun x hx hne hf => ?_, h.fast, Arcs.zero v f⟩
  rcases h.pen x hx hf with h1 | ⟨r', p, h1, h2, h3⟩
  · exact .inl h1
  · right
    refine ⟨r', p, h1, h2, ?_⟩
    rcases h3 with h3 | ⟨h3, h4⟩
    · exact .inl h3
    · right
      refine ⟨h3, ?_⟩
      by_cases e : p = j
      · exfalso
        subst e
        rw [← h3, hr] at h1
        simp at h1
        subst h1
        rw [hj] at h2
        simp at h2
        exact hne h2.symm
      · omega

theorem DP.leave (hG : Ok G) {f : Nat → Int} {rows : List (List Nat)} {d j v : Nat} (h : DP G D f rows d j v (G.adj v).length) : DJ G D f rows d (j + 1) := by
  refine ⟨h.base, fun x hx hf => ?_, fun _ => ?_⟩
  · by_cases e : x = v
    · subst e; exact .inl h.arcs.all
    · exact h.pen x hx e hf
  · by_cases hd : d ≠ 0 ∨ j ≠ 0
    · exact h.fast hd
    · have hd0 : d = 0 := by omega
      have hj0 : j = 0 := by omega
      subst hd0 hj0
      obtain ⟨r, hr, hj⟩ := h.row
      obtain ⟨r0, h0⟩ := h.base.fst
      rw [hr] at h0
      simp at h0
      subst h0
      simp at hj
      subst hj
      intro y w hy he
      have h1 := h.arcs.all y 0 (hG.fast y w hy he)
      have h2 := h.base.src0
      omega

theorem DP.skip {f : Nat → Int} {rows : List (List Nat)} {d j v t : Nat} (h : DP G D f rows d j v t) (ht : t < (G.adj v).length) (hs : 0 < G.rm (G.adj v)[t] → 0 ≤ f (G.hd (G.adj v)[t]) ∧ f (G.hd (G.adj v)[t]) ≤ (d : Int) + cost G.m (G.adj v)[t]) : DP G D f rows d j v (t + 1) :=
  ⟨h.base, h.row, h.fv, h.pen, h.fast, h.arcs.skip ht (by rw [h.fv]; exact hs)⟩

theorem DP.vlt {f : Nat → Int} {rows : List (List Nat)} {d j v t : Nat} (h : DP G D f rows d j v t) : v < G.N := by
  obtain ⟨r, hr, hj⟩ := h.row
  exact h.base.ent r (List.mem_of_getElem? hr) v (List.mem_of_getElem? hj)
/-- The next distance is 0 or 1, and no more than one beyond. -/
theorem DP.nextD (hG : Ok G) {f : Nat → Int} {rows : List (List Nat)} {d j v t i : Nat} (h : DP G D f rows d j v t) (hi : i ∈ G.adj v) (hr : 0 < G.rm i) : (d : Int) ≤ d + cost G.m i ∧ (d : Int) + cost G.m i ≤ 1 ∧ (d : Int) + cost G.m i ≤ d + 1 := by
  have h1 := hG.pos i hr
  have h2 := cost_le G.m i
  have h3 := h.base.val v
  have h4 := h.fv
  refine ⟨by omega, ?_, by omega⟩
  by_cases hc : cost G.m i = 1
  · by_cases hd : d ≠ 0 ∨ j ≠ 0
    · have := h.fast hd v (G.hd i) h.vlt ⟨i, hi, hr, rfl, hc⟩
      omega
    · omega
  · omega

/-- rows with w put behind row k. -/
def put (rows : List (List Nat)) (k w : Nat) : List (List Nat) := rows.set k (rows.getD k [] ++ [w])
/-- rows with row k there. -/
def pad (rows : List (List Nat)) (k : Nat) : List (List Nat) := if rows.length ≤ k then rows ++ [[]] else rows

/-- Every row goes on. -/
def Ext (rows rows' : List (List Nat)) : Prop := ∀ (k : Nat) (r : List Nat), rows[k]? = some r → ∃ s, rows'[k]? = some (r ++ s)
theorem Ext.refl (rows : List (List Nat)) : Ext rows rows := fun _ r h => ⟨[], by simpa using h⟩
theorem Ext.trans {a b c : List (List Nat)} (h : Ext a b) (k : Ext b c) : Ext a c := by
  intro i r hr
  obtain ⟨s, hs⟩ := h i r hr
  obtain ⟨u, hu⟩ := k i _ hs
  exact ⟨s ++ u, by rw [hu, List.append_assoc]⟩
theorem ext_pad (rows : List (List Nat)) (k : Nat) : Ext rows (pad rows k) := by
  intro i r hr
  unfold pad
  split
  · exact ⟨[], by rw [List.getElem?_append_left (List.getElem?_eq_some_iff.1 hr).1]; simpa using hr⟩
  · exact ⟨[], by simpa using hr⟩
theorem ext_put (rows : List (List Nat)) (k w : Nat) : Ext rows (put rows k w) := by
  intro i r hr
  by_cases e : k = i
  · subst e
    refine ⟨[w], ?_⟩
    unfold put
    rw [List.getElem?_set_self (List.getElem?_eq_some_iff.1 hr).1]
    simp [List.getD_eq_getElem?_getD, hr]
  · exact ⟨[], by unfold put; rw [List.getElem?_set_ne e]; simpa using hr⟩
theorem Pend.ext {f : Nat → Int} {rows rows' : List (List Nat)} {d j x : Nat} (h : Pend f rows d j x) (he : Ext rows rows') {f' : Nat → Int} (hf : f' x = f x) : Pend f' rows' d j x := by
  obtain ⟨r, p, h1, h2, h3⟩ := h
  obtain ⟨s, hs⟩ := he _ r h1
  refine ⟨r ++ s, p, by rw [hf]; exact hs, ?_, by rw [hf]; exact h3⟩
  rw [List.getElem?_append_left (List.getElem?_eq_some_iff.1 h2).1]
  exact h2

theorem DP.push (hG : Ok G) (hB : Best G D lv) {f : Nat → Int} {rows : List (List Nat)} {d j v t tt : Nat} (h : DP G D f rows d j v t) (ht : t < (G.adj v).length) (hr : 0 < G.rm (G.adj v)[t])
    (hto : (tt : Int) = d + cost G.m (G.adj v)[t]) (hc : f (G.hd (G.adj v)[t]) < 0 ∨ (tt : Int) < f (G.hd (G.adj v)[t])) :
    DP G D (upd f (G.hd (G.adj v)[t]) (tt : Nat)) (put (pad rows tt) tt (G.hd (G.adj v)[t])) d j v (t + 1) := by
  have hmem := List.getElem_mem ht
  have hvl := h.vlt
  have hwl := (hG.arc v hvl _ hmem).2
  have hto1 := h.nextD hG hmem hr
  have he : Edge G v (G.hd (G.adj v)[t]) (cost G.m (G.adj v)[t]) := ⟨_, hmem, hr, rfl, rfl⟩
  have hfv := h.fv
  have hs := snd_upd hB h.base.snd hvl he (by omega)
  rw [hfv, ← hto] at hs
  have hst := step_upd (f := f) (w := G.hd (G.adj v)[t]) (z := (tt : Nat)) (by omega) hc
  have hne : v ≠ G.hd (G.adj v)[t] := by
    intro e
    rw [← e] at hc
    omega
  have hpos := hG.pos _ hr
  obtain ⟨rd, hrd, hjd⟩ := h.row
  have hext : Ext rows (put (pad rows tt) tt (G.hd (G.adj v)[t])) := (ext_pad rows tt).trans (ext_put _ _ _)
  have hdl : d < rows.length := (List.getElem?_eq_some_iff.1 hrd).1
  have hlen := h.base.len
  have hpl : (pad rows tt).length ≤ 2 ∧ tt < (pad rows tt).length := by
    unfold pad
    split
    · rw [List.length_append]; simp; omega
    · omega
  have hv' : upd f (G.hd (G.adj v)[t]) (tt : Nat) v = f v := upd_other _ _ hne
  refine ⟨⟨?_, fun x => ?_, hs.1, ?_, by unfold put; rw [List.length_set]; exact hpl.1, ?_⟩, ?_, by rw [hv']; exact hfv, fun x hx hxv hxf => ?_, fun hdj y w hy hey => ?_, ?_⟩
  · by_cases e : G.src = G.hd (G.adj v)[t]
    · rw [← e] at hc
      have := h.base.src0
      omega
    · rw [upd_other _ _ e]; exact h.base.src0
  · by_cases e : x = G.hd (G.adj v)[t]
    · rw [e, upd_same]; omega
    · rw [upd_other _ _ e]; exact h.base.val x
  · intro r hr' x hx
    unfold put at hr'
    have hpad : ∀ r ∈ pad rows tt, ∀ x ∈ r, x < G.N := by
      intro r hr x hx
      unfold pad at hr
      split at hr
      · rw [List.mem_append] at hr
        rcases hr with hr | hr
        · exact h.base.ent r hr x hx
        · simp at hr; subst hr; simp at hx
      · exact h.base.ent r hr x hx
    rcases List.mem_or_eq_of_mem_set hr' with h1 | h1
    · exact hpad r h1 x hx
    · subst h1
      rw [List.mem_append] at hx
      rcases hx with hx | hx
      · have hg : (pad rows tt).getD tt [] ∈ pad rows tt := by
          rw [List.getD_eq_getElem?_getD, List.getElem?_eq_getElem hpl.2]
          exact List.getElem_mem _
        exact hpad _ hg x hx
      · simp at hx; subst hx; exact hwl
  · obtain ⟨r0, h0⟩ := h.base.fst
    obtain ⟨s, hs0⟩ := hext 0 _ h0
    exact ⟨r0 ++ s, by simpa using hs0⟩
  · obtain ⟨s, hs0⟩ := hext d _ hrd
    exact ⟨rd ++ s, hs0, by rw [List.getElem?_append_left (List.getElem?_eq_some_iff.1 hjd).1]; exact hjd⟩
  · by_cases e : x = G.hd (G.adj v)[t]
    · right
      subst e
      have hg : put (pad rows tt) tt (G.hd (G.adj v)[t]) = (pad rows tt).set tt ((pad rows tt)[tt]'hpl.2 ++ [G.hd (G.adj v)[t]]) := by
        unfold put
        rw [List.getD_eq_getElem?_getD, List.getElem?_eq_getElem hpl.2]
        rfl
      refine ⟨(pad rows tt)[tt]'hpl.2 ++ [G.hd (G.adj v)[t]], ((pad rows tt)[tt]'hpl.2).length, ?_, by simp, ?_⟩
      · rw [upd_same, hg, Int.toNat_natCast, List.getElem?_set_self hpl.2]
      · rw [upd_same, Int.toNat_natCast]
        by_cases hdt : d < tt
        · exact .inl hdt
        · right
          have hdt' : d = tt := by omega
          refine ⟨hdt', ?_⟩
          obtain ⟨s, hs0⟩ := ext_pad rows tt d _ hrd
          rw [hdt', List.getElem?_eq_getElem hpl.2] at hs0
          simp at hs0
          rw [hs0, List.length_append]
          have := (List.getElem?_eq_some_iff.1 hjd).1
          omega
    · rw [upd_other _ _ e] at hxf
      have hx' : upd f (G.hd (G.adj v)[t]) (tt : Nat) x = f x := upd_other _ _ e
      rcases h.pen x hx hxv hxf with h1 | h1
      · exact .inl (h1.step hst hx')
      · exact .inr (h1.ext hext hx')
  · have h1 := h.fast hdj y w hy hey
    by_cases e : y = G.hd (G.adj v)[t]
    · rw [← e] at hc
      omega
    · rw [upd_other _ _ e]; exact h1
  · refine (h.arcs.step hst hv').skip ht (fun _ => ?_)
    rw [upd_same, hv', hfv]
    omega

theorem DJ.next {f : Nat → Int} {rows : List (List Nat)} {d j : Nat} {r : List Nat} (h : DJ G D f rows d j) (hr : rows[d]? = some r) (hj : r.length ≤ j) : DJ G D f rows (d + 1) 0 := by
  refine ⟨h.base, fun x hx hf => ?_, fun _ => ?_⟩
  · rcases h.pen x hx hf with h1 | ⟨r', p, h1, h2, h3⟩
    · exact .inl h1
    · right
      refine ⟨r', p, h1, h2, ?_⟩
      rcases h3 with h3 | ⟨h3, h4⟩
      · omega
      · exfalso
        rw [← h3, hr] at h1
        simp at h1
        subst h1
        have := (List.getElem?_eq_some_iff.1 h2).1
        omega
  · apply h.fast
    by_cases hd : d = 0
    · right
      intro e
      subst hd e
      obtain ⟨r0, h0⟩ := h.base.fst
      rw [hr] at h0
      simp at h0
      subst h0
      simp at hj
    · exact .inl hd

theorem DJ.fin (hB : Best G D lv) {f : Nat → Int} {rows : List (List Nat)} {d : Nat} (h : DJ G D f rows d 0) (hd : rows.length ≤ d) : ∀ x, x < G.N → f x = D x := by
  have hr : ∀ v, v < G.N → 0 ≤ f v → ∀ w c, Edge G v w c → 0 ≤ f w ∧ f w ≤ f v + c := by
    intro v hv hf w c he
    rcases h.pen v hv hf with h1 | ⟨r', p, h1, h2, h3⟩
    · exact h1 w c he
    · have := (List.getElem?_eq_some_iff.1 h1).1
      omega
  refine all_of hB h.base.snd (fun x => ?_) (fun x hx hdx => best_of hB h.base.snd h.base.src0 hr (lv x) x hx hdx (Nat.le_refl _))
  rcases h.base.val x with h1 | h1
  · exact .inl h1
  · exact .inr h1.1

/-! The measure. -/
def pot (z : Int) : Nat := if z < 0 then 2 else z.toNat
def phi (f : Nat → Int) : Nat → Nat
  | 0 => 0
  | n + 1 => phi f n + pot (f n)
theorem phi_other (f : Nat → Int) (w : Nat) (z : Int) : ∀ n, n ≤ w → phi (upd f w z) n = phi f n
  | 0, _ => rfl
  | n + 1, h => by rw [phi, phi, phi_other f w z n (by omega), upd_other _ _ (by omega)]
theorem phi_upd (f : Nat → Int) (w : Nat) (z : Int) (hp : pot z < pot (f w)) : ∀ n, w < n → phi (upd f w z) n + 1 ≤ phi f n
  | 0, h => by omega
  | n + 1, h => by
    by_cases e : w = n
    · subst e
      rw [phi, phi, phi_other f w z w (Nat.le_refl _), upd_same]
      omega
    · rw [phi, phi, upd_other _ _ (by omega)]
      have := phi_upd f w z hp n (by omega)
      omega
theorem pot_down {tt : Nat} {z : Int} (h : z < 0 ∨ (tt : Int) < z) (h1 : tt ≤ 1) : pot (tt : Nat) < pot z := by
  unfold pot
  split <;> split <;> omega
end
end Go.Proofs.Ybulkcmrw.G
