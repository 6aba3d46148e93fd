/-
  Memory that the call owns: an append that tells where the row lies, and a table of rows. No program in sight.
-/
import Derived.WalkKit
import Derived.OwnWalk
import Derived.Laws.OwnMore
import Derived.Deep.OwnRows
namespace Go.Proofs.Ybulkcmrw.Mem
open Go Go.RowKit

theorem grown_trans {w1 w2 w3 : World} {r : Option Nat} (h : w1.grownBy w2 r) (k : w2.grownBy w3 r) : w1.grownBy w3 r :=
  ⟨k.os.trans h.os, k.tape.trans h.tape, k.output.trans h.output, Nat.le_trans h.size k.size,
    fun j hj hne => (k.block j (Nat.lt_of_lt_of_le hj h.size) hne).trans (h.block j hj hne)⟩

/-- append(v, x), v a row that the call owns, one cell an element: as run_append_own, and where the new row lies. -/
theorem run_append_one {P : Program} (w : World) (base : Nat) (t ty e : TypeId) (i : TypeInfo) (z : Value) (bytes : Nat) (ht : P.underlying t = some (.slice e)) (hi : P.info? e = some i) (hz : i.zero = some z)
    (hsize : i.size = 1) (hby : i.bytes = bytes) (hzs : z.cells.size = 1) (v : Value) (n : Nat) (xs : List Value) (hown : w.ownsRow base e 1 v n xs)
    (a : Addr) (c : Nat) (x : Value) (hx : w.cell? a = some x) (h1 : x.oneCell' = true) (h63 : n + 1 ≤ maxLen) (hbytes : (n + 1) * bytes ≤ 140737488355328) (hbase : base ≤ w.heap.size) :
    ∃ v' w', (Builtin.append_ #[t, t] ty #[v, .slice (some a) 1 c]).run P w = .ok v' w' ∧ w'.ownsRow base e 1 v' (n + 1) (xs ++ [x]) ∧ w.grownBy w' v.ownBlock ∧ (v'.ownBlock = v.ownBlock ∨ v'.ownBlock = some w.heap.size) := by
  have hn : ∀ j u, [x][j]? = some u → w.cell? (a.add j) = some u := by
    intro j u hj
    cases j with
    | zero =>
      have e : a.add 0 = a := by unfold Addr.add; split <;> simp_all
      rw [e]; simp at hj; rw [← hj]; exact hx
    | succ j => simp at hj
  have h63' : n + 1 ≤ 9223372036854775807 := by simp only [maxLen] at h63; omega
  have hone : ∀ u ∈ [x], u.oneCell' = true := by intro u hu; simp at hu; rw [hu]; exact h1
  obtain ⟨v', w', hr, h2, h3, h4⟩ := run_append_own (P := P) w base t ty e i z 1 bytes ht hi hz hsize hby hzs (by decide) v n xs hown a 1 c [x] rfl hn hone h63 hbytes hbase
  refine ⟨v', w', hr, h2, h3, ?_⟩
  rcases hown.2 with ⟨rfl, rfl⟩ | ⟨g, cap, cur, rfl, hbg, hg, hnc, hcm, hcs, htake⟩
  · obtain ⟨v2, w2, hr2, k2, _, _⟩ := run_append_own (P := P) w w.heap.size t ty e i z 1 bytes ht hi hz hsize hby hzs (by decide) (.slice none 0 0) 0 [] (World.ownsRow_nil _ _ _ _) a 1 c [x] rfl hn hone h63 hbytes (Nat.le_refl _)
    rw [hr] at hr2
    injection hr2 with e1 e2
    subst e1 e2
    right
    have hx0 : xs = [] := List.eq_nil_of_length_eq_zero (by simpa using hown.1)
    have hm := run_append_nil (P := P) w t ty e i z ht hi hz a 1 c [x] (by rw [hsize]; rfl) hn (by omega) (by omega) (by rw [hby]; omega)
    rw [hr] at hm
    injection hm with e1 e2
    rw [e1]
    rfl
  · by_cases hroom : n + 1 ≤ cap
    · left
      have hm := run_append_room (P := P) w t ty e i ht hi g n cap cur hg a 1 c [x] (by rw [hsize]; rfl) hn hone hroom (by rw [hsize]; simp; omega)
      rw [hr] at hm
      injection hm with e1 e2
      rw [e1]
      rfl
    · right
      have holds : ∀ j u, xs[j]? = some u → w.cell? ((⟨g, 0, none⟩ : Addr).add j) = some u := hown.cells (g := g) rfl
      have hm := run_append_grow (P := P) w t ty e i z ht hi hz ⟨g, 0, none⟩ n cap xs (by rw [hsize]; exact hown.1) holds a 1 c [x] (by rw [hsize]; rfl) hn (by omega) (by omega) (growslice_fits (by omega) (by rw [hby]; exact hbytes))
      rw [hr] at hm
      injection hm with e1 e2
      rw [e1]
      rfl

theorem wp_append_one {P : Program} (w : World) {o : Oper} {a : Act} {K : Act → World → Prop} {Q : Exit → Act → World → Prop} (s x : Operand) (t : TypeId) (ho : o.op = .call { callee := .builtin .append, args := #[s, x], argTypes := #[t, t] })
    (base : Nat) (e : TypeId) (i : TypeInfo) (z : Value) (bytes : Nat) (ht : P.underlying t = some (.slice e)) (hi : P.info? e = some i) (hz : i.zero = some z)
    (hsize : i.size = 1) (hby : i.bytes = bytes) (hzs : z.cells.size = 1) (v : Value) (n : Nat) (xs : List Value) (hs : a.eval s = v) (hown : w.ownsRow base e 1 v n xs)
    (ad : Addr) (c : Nat) (u : Value) (hx : a.eval x = .slice (some ad) 1 c) (hu : w.cell? ad = some u) (h1 : u.oneCell' = true) (h63 : n + 1 ≤ maxLen) (hbytes : (n + 1) * bytes ≤ 140737488355328) (hbase : base ≤ w.heap.size)
    (h : ∀ v' w', w'.ownsRow base e 1 v' (n + 1) (xs ++ [u]) → w.grownBy w' v.ownBlock → (v'.ownBlock = v.ownBlock ∨ v'.ownBlock = some w.heap.size) → K (a.put o.dst v') w') : o.wp P a w K Q := by
  obtain ⟨v', w', hr, h2, h3, h4⟩ := run_append_one (P := P) w base t o.type e i z bytes ht hi hz hsize hby hzs v n xs hown ad c u hu h1 h63 hbytes hbase
  unfold Oper.wp execOp
  simp only [ho, resolve, invoke, builtin, Sem.run_bind, Sem.run_pure, Result.andThen_ok, List.map_toArray, List.map_cons, List.map_nil, hs, hx, hr]
  exact h v' w' h2 h3 h4

theorem wpList_append_one {P : Program} (w : World) {ops : Array Oper} {rest : List Oper} {o : Oper} {a : Act} {Q : Exit → Act → World → Prop} (hgd : o.guard = none) (s x : Operand) (t : TypeId) (ho : o.op = .call { callee := .builtin .append, args := #[s, x], argTypes := #[t, t] })
    (base : Nat) (e : TypeId) (i : TypeInfo) (z : Value) (bytes : Nat) (ht : P.underlying t = some (.slice e)) (hi : P.info? e = some i) (hz : i.zero = some z)
    (hsize : i.size = 1) (hby : i.bytes = bytes) (hzs : z.cells.size = 1) (v : Value) (n : Nat) (xs : List Value) (hs : a.eval s = v) (hown : w.ownsRow base e 1 v n xs)
    (ad : Addr) (c : Nat) (u : Value) (hx : a.eval x = .slice (some ad) 1 c) (hu : w.cell? ad = some u) (h1 : u.oneCell' = true) (h63 : n + 1 ≤ maxLen) (hbytes : (n + 1) * bytes ≤ 140737488355328) (hbase : base ≤ w.heap.size)
    (h : ∀ v' w', w'.ownsRow base e 1 v' (n + 1) (xs ++ [u]) → w.grownBy w' v.ownBlock → (v'.ownBlock = v.ownBlock ∨ v'.ownBlock = some w.heap.size) → wpList P ops Q rest (a.put o.dst v') w') : wpList P ops Q (o :: rest) a w :=
  wpList_plain hgd fun _ hK => wp_append_one w s x t ho base e i z bytes ht hi hz hsize hby hzs v n xs hs hown ad c u hx hu h1 h63 hbytes hbase fun v' w' h2 h3 h4 => hK _ _ (h v' w' h2 h3 h4)

theorem step_append_one {P : Program} (w : World) {ops : Array Oper} {o : Oper} {a : Act} {K : Act → World → Prop} {Q : Exit → Act → World → Prop} {E : Prop} (hgd : o.guard = none) (s x : Operand) (t : TypeId) (ho : o.op = .call { callee := .builtin .append, args := #[s, x], argTypes := #[t, t] })
    (base : Nat) (e : TypeId) (i : TypeInfo) (z : Value) (bytes : Nat) (ht : P.underlying t = some (.slice e)) (hi : P.info? e = some i) (hz : i.zero = some z)
    (hsize : i.size = 1) (hby : i.bytes = bytes) (hzs : z.cells.size = 1) (v : Value) (n : Nat) (xs : List Value) (hs : a.eval s = v) (hown : w.ownsRow base e 1 v n xs)
    (ad : Addr) (c : Nat) (u : Value) (hx : a.eval x = .slice (some ad) 1 c) (hu : w.cell? ad = some u) (h1 : u.oneCell' = true) (h63 : n + 1 ≤ maxLen) (hbytes : (n + 1) * bytes ≤ 140737488355328) (hbase : base ≤ w.heap.size)
    (h : ∀ v' w', w'.ownsRow base e 1 v' (n + 1) (xs ++ [u]) → w.grownBy w' v.ownBlock → (v'.ownBlock = v.ownBlock ∨ v'.ownBlock = some w.heap.size) → K (a.put o.dst v') w') :
    if Region.wanted o (yielded ops a.tmps) = true then Oper.wp P o a w K Q else E := by
  have hw : Region.wanted o (yielded ops a.tmps) = true := by simp [Region.wanted, hgd]
  rw [if_pos hw]
  exact wp_append_one w s x t ho base e i z bytes ht hi hz hsize hby hzs v n xs hs hown ad c u hx hu h1 h63 hbytes hbase h

def ic (l : List Nat) : List Value := l.map fun n => Value.int .i32 (n : Nat)
theorem ic_append (l : List Nat) (x : Nat) : ic (l ++ [x]) = ic l ++ [.int .i32 (x : Nat)] := by simp [ic]
theorem ic_length (l : List Nat) : (ic l).length = l.length := by simp [ic]
theorem ic_get {l : List Nat} {j : Nat} (h : j < l.length) : (ic l)[j]? = some (.int .i32 (l[j] : Nat)) := by simp [ic, List.getElem?_eq_getElem h]

theorem own_type {w : World} {B : Nat} {e : TypeId} {s : Nat} {v : Value} {n : Nat} {xs : List Value} (h : w.ownsRow B e s v n xs) {g : Nat} (hg : v.ownBlock = some g) : ∃ cur, w.heap[g]? = some (.cells cur e (0, 0)) := by
  rcases h.2 with ⟨rfl, _⟩ | ⟨g', cap, cur, rfl, _, hgg, _⟩
  · simp [Value.ownBlock] at hg
  · simp [Value.ownBlock] at hg
    subst hg
    exact ⟨cur, hgg⟩
theorem own_ne {w : World} {B B' : Nat} {e e' : TypeId} {s s' : Nat} {v v' : Value} {n n' : Nat} {xs xs' : List Value} (h : w.ownsRow B e s v n xs) (h' : w.ownsRow B' e' s' v' n' xs') (hne : e ≠ e') : v.ownBlock = none ∨ v.ownBlock ≠ v'.ownBlock := by
  cases hv : v.ownBlock with
  | none => exact .inl rfl
  | some g =>
    right
    intro he
    obtain ⟨c1, h1⟩ := own_type h hv
    obtain ⟨c2, h2⟩ := own_type h' he.symm
    rw [h1] at h2
    simp at h2
    exact hne h2.2
theorem grown_set (w : World) (b o : Nat) (u : Value) : w.grownBy (w.setCell ⟨b, o, none⟩ u) (some b) :=
  ⟨rfl, rfl, rfl, by simp [World.setCell], fun k _ hne => Below.heap_setCell _ ⟨b, o, none⟩ _ _ (by intro e; exact hne (by rw [e]))⟩

/-- A table of rows of int32s: tv owns the rows' values; each value owns its row; no two rows share a block. -/
structure Tab (w : World) (B0 B1 : Nat) (tv : Value) (n : Nat) (vs : List Value) (rows : List (List Nat)) : Prop where
  own : w.ownsRow B0 34 1 tv n vs
  rl : rows.length = n
  each : ∀ (k : Nat) v r, vs[k]? = some v → rows[k]? = some r → w.ownsRow B1 21 1 v r.length (ic r)
  dis : ∀ (k l : Nat) v u, k ≠ l → vs[k]? = some v → vs[l]? = some u → v.ownBlock = none ∨ v.ownBlock ≠ u.ownBlock

section
variable {w w' : World} {B0 B1 : Nat} {tv : Value} {n : Nat} {vs : List Value} {rows : List (List Nat)}

theorem Tab.vl (h : Tab w B0 B1 tv n vs rows) : vs.length = n := by have := h.own.1; omega
theorem Tab.at (h : Tab w B0 B1 tv n vs rows) {k : Nat} (hk : k < n) : ∃ v, vs[k]? = some v ∧ rows[k]? = some (rows[k]'(by rw [h.rl]; exact hk)) ∧ w.ownsRow B1 21 1 v (rows[k]'(by rw [h.rl]; exact hk)).length (ic (rows[k]'(by rw [h.rl]; exact hk))) := by
  have h1 : k < vs.length := by rw [h.vl]; exact hk
  have h2 : k < rows.length := by rw [h.rl]; exact hk
  exact ⟨vs[k], List.getElem?_eq_getElem h1, List.getElem?_eq_getElem h2, h.each k _ _ (List.getElem?_eq_getElem h1) (List.getElem?_eq_getElem h2)⟩
theorem Tab.kept {row : Option Nat} (h : Tab w B0 B1 tv n vs rows) (hg : w.grownBy w' row) (h1 : tv.ownBlock = none ∨ tv.ownBlock ≠ row) (h2 : ∀ v ∈ vs, v.ownBlock = none ∨ v.ownBlock ≠ row) : Tab w' B0 B1 tv n vs rows :=
  ⟨h.own.kept hg h1, h.rl, fun k v r hv hr => (h.each k v r hv hr).kept hg (h2 v (List.mem_of_getElem? hv)), h.dis⟩
theorem Tab.row_of (h : Tab w B0 B1 tv n vs rows) {v : Value} (hv : v ∈ vs) : ∃ r, w.ownsRow B1 21 1 v r.length (ic r) := by
  obtain ⟨k, hk, rfl⟩ := List.mem_iff_getElem.1 hv
  have h2 : k < rows.length := by rw [h.rl, ← h.vl]; exact hk
  exact ⟨_, h.each k _ _ (List.getElem?_eq_getElem hk) (List.getElem?_eq_getElem h2)⟩
theorem Tab.alloc (h : Tab w B0 B1 tv n vs rows) (o : Obj) : Tab (w.alloc o) B0 B1 tv n vs rows :=
  h.kept (World.grownBy_alloc w o none) (by cases tv.ownBlock <;> simp) (fun v _ => by cases v.ownBlock <;> simp)
theorem Tab.drew (h : Tab w B0 B1 tv n vs rows) : Tab w.drew B0 B1 tv n vs rows := ⟨h.own, h.rl, h.each, h.dis⟩
/-- A store into a block of another type. -/
theorem Tab.setOther (h : Tab w B0 B1 tv n vs rows) {b : Nat} {cur : Array Value} {t : TypeId} {fr : Nat × Nat} (hb : w.heap[b]? = some (.cells cur t fr)) (h34 : t ≠ 34) (h21 : t ≠ 21 ∨ b < B1) (o : Nat) (u : Value) : Tab (w.setCell ⟨b, o, none⟩ u) B0 B1 tv n vs rows := by
  have key : ∀ {e : TypeId} {B : Nat} {x : Value} {m : Nat} {xs : List Value}, w.ownsRow B e 1 x m xs → (t ≠ e ∨ b < B) → x.ownBlock = none ∨ x.ownBlock ≠ some b := by
    intro e B x m xs hx hne
    cases hv : x.ownBlock with
    | none => exact .inl rfl
    | some g =>
      right
      intro he
      simp at he
      subst he
      obtain ⟨c1, h1⟩ := own_type hx hv
      rcases hne with hne | hne
      · rw [h1] at hb
        simp at hb
        exact hne hb.2.1.symm
      · have := (hx.lt _ hv).1
        omega
  exact h.kept (grown_set w b o u) (key h.own (.inl h34)) (fun v hv => by obtain ⟨r, hr⟩ := h.row_of hv; exact key hr h21)

/-- row k gets one element more, and the table's cell k the new value. -/
theorem Tab.push {gt cap k x : Nat} {v v' : Value} {r : List Nat} (h : Tab w B0 B1 (.slice (some ⟨gt, 0, none⟩) n cap) n vs rows) (hv : vs[k]? = some v) (hr : rows[k]? = some r)
    (ho : w'.ownsRow B1 21 1 v' (r.length + 1) (ic r ++ [.int .i32 (x : Nat)])) (hg : w.grownBy w' v.ownBlock) (hf : v'.ownBlock = v.ownBlock ∨ v'.ownBlock = some w.heap.size) :
    Tab (w'.setCell ⟨gt, k, none⟩ v') B0 B1 (.slice (some ⟨gt, 0, none⟩) n cap) n (vs.set k v') (rows.set k (r ++ [x])) := by
  have hro := h.each k v r hv hr
  have own1 : w'.ownsRow B0 34 1 (.slice (some ⟨gt, 0, none⟩) n cap) n vs := h.own.kept hg (own_ne h.own hro (by decide))
  have hk : k < vs.length := (List.getElem?_eq_some_iff.1 hv).1
  have st := own1.stored k v'
  have hne : ∀ {x : Value} {m : Nat} {xs : List Value}, w'.ownsRow B1 21 1 x m xs → x.ownBlock = none ∨ x.ownBlock ≠ some gt := by
    intro x m xs hx
    rcases own_ne hx own1 (by decide) with h1 | h1
    · exact .inl h1
    · exact .inr (by simpa [Value.ownBlock] using h1)
  have hnew : ∀ (l : Nat) u, k ≠ l → vs[l]? = some u → v'.ownBlock = none ∨ v'.ownBlock ≠ u.ownBlock := by
    intro l u hkl hu
    rcases hf with h1 | h1
    · rw [h1]; exact h.dis k l v u hkl hv hu
    · right
      rw [h1]
      intro he
      have hl : l < rows.length := by rw [h.rl, ← h.vl]; exact (List.getElem?_eq_some_iff.1 hu).1
      have := (h.each l u _ hu (List.getElem?_eq_getElem hl)).lt _ he.symm
      omega
  refine ⟨st.1, by simp [h.rl], ?_, ?_⟩
  · intro l u r' hu hr'
    by_cases e : k = l
    · subst e
      rw [List.getElem?_set_self hk] at hu
      rw [List.getElem?_set_self (by rw [h.rl, ← h.vl]; exact hk)] at hr'
      simp at hu hr'
      subst hu hr'
      have := ho.kept (grown_set w' gt k v') (hne ho)
      rw [List.length_append, ic_append]
      exact this
    · rw [List.getElem?_set_ne e] at hu hr'
      have h1 := (h.each l u r' hu hr').kept hg (by
        rcases h.dis l k u v (Ne.symm e) hu hv with h2 | h2
        · exact .inl h2
        · exact .inr h2)
      exact h1.kept (grown_set w' gt k v') (hne h1)
  · intro a b x y hab hx hy
    by_cases ea : k = a
    · subst ea
      rw [List.getElem?_set_self hk] at hx
      simp at hx
      subst hx
      rw [List.getElem?_set_ne hab] at hy
      exact hnew b y hab hy
    · rw [List.getElem?_set_ne ea] at hx
      by_cases eb : k = b
      · subst eb
        rw [List.getElem?_set_self hk] at hy
        simp at hy
        subst hy
        rcases hnew a x ea hx with h1 | h1
        · cases hxb : x.ownBlock with
          | none => exact .inl rfl
          | some g => right; rw [h1]; simp
        · exact .inr (Ne.symm h1)
      · rw [List.getElem?_set_ne eb] at hy
        exact h.dis a b x y hab hx hy

/-- The table gets a nil row more. -/
theorem Tab.grow {tv' : Value} (h : Tab w B0 B1 tv n vs rows) (ho : w'.ownsRow B0 34 1 tv' (n + 1) (vs ++ [.slice none 0 0])) (hg : w.grownBy w' tv.ownBlock) : Tab w' B0 B1 tv' (n + 1) (vs ++ [.slice none 0 0]) (rows ++ [[]]) := by
  have hvl := h.vl
  refine ⟨ho, by simp [h.rl], ?_, ?_⟩
  · intro k v r hv hr
    by_cases e : k < n
    · rw [List.getElem?_append_left (by omega)] at hv
      rw [List.getElem?_append_left (by rw [h.rl]; exact e)] at hr
      have h1 := h.each k v r hv hr
      exact h1.kept hg (own_ne h1 h.own (by decide))
    · have hk : k = n := by
        have := (List.getElem?_eq_some_iff.1 hv).1
        simp at this
        omega
      subst hk
      rw [List.getElem?_append_right (by omega), hvl] at hv
      rw [List.getElem?_append_right (by rw [h.rl]; exact Nat.le_refl _), h.rl] at hr
      simp at hv hr
      subst hv hr
      exact World.ownsRow_nil _ _ _ _
  · intro a b x y hab hx hy
    by_cases ea : a < n
    · rw [List.getElem?_append_left (by omega)] at hx
      by_cases eb : b < n
      · rw [List.getElem?_append_left (by omega)] at hy
        exact h.dis a b x y hab hx hy
      · rw [List.getElem?_append_right (by omega)] at hy
        have : y = .slice none 0 0 := by
          have := List.mem_of_getElem? hy
          simpa using this
        subst this
        cases hxb : x.ownBlock with
        | none => exact .inl rfl
        | some g => right; simp [Value.ownBlock]
    · rw [List.getElem?_append_right (by omega)] at hx
      have : x = .slice none 0 0 := by
        have := List.mem_of_getElem? hx
        simpa using this
      subst this
      exact .inl rfl

theorem row_shape {v : Value} {r : List Nat} (h : w.ownsRow B1 21 1 v r.length (ic r)) (hr : 0 < r.length) : ∃ g c, v = .slice (some ⟨g, 0, none⟩) r.length c ∧ ∀ j (hj : j < r.length), w.cell? ⟨g, j, none⟩ = some (.int .i32 (r[j] : Nat)) := by
  rcases h.2 with ⟨_, h0⟩ | ⟨g, cap, cur, rfl, _⟩
  · omega
  · refine ⟨g, cap, rfl, fun j hj => ?_⟩
    rw [h.cellAt j (by omega)]
    exact ic_get hj
/-- A row's value, in one form. -/
theorem row_val {v : Value} {r : List Nat} (h : w.ownsRow B1 21 1 v r.length (ic r)) : ∃ va c, v = .slice va r.length c := by
  rcases h.2 with ⟨rfl, h0⟩ | ⟨g, cap, cur, rfl, _⟩
  · exact ⟨none, 0, by rw [h0]⟩
  · exact ⟨_, cap, rfl⟩
end
end Go.Proofs.Ybulkcmrw.Mem
