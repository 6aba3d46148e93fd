/-
  newClearing's region that makes the rows and the struct, in whatever order.
-/
import Derived.Test.YbulkcmrwInv
namespace Go.Proofs.Ybulkcmrw.W
open Go Go.RowKit Go.Proofs.Ybulkcmrw.Inv

theorem run37 (a b c : Option Addr) (n m k n' m' k' : Nat) (w : World) : (Instr.build 37 #[(0, .slice a n n'), (1, .slice b m m'), (2, .slice c k k')]).run Yba.prog w = .ok (.agg #[.slice a n n', .slice b m m', .slice c k k']) w := by
  go_simp
theorem run42 (x0 x1 x2 : Value) (a3 a4 a5 a8 a9 a10 : Option Addr) (n3 m3 n4 m4 n5 m5 n8 m8 n9 m9 n10 m10 : Nat) (i j : Int) (w : World) :
    (Instr.build 42 #[(0, .agg #[x0, x1, x2]), (1, .slice a3 n3 m3), (2, .slice a4 n4 m4), (3, .slice a5 n5 m5), (4, .int .i32 i), (5, .int .i32 j), (6, .slice a8 n8 m8), (7, .slice a9 n9 m9), (8, .slice a10 n10 m10)]).run Yba.prog w
      = .ok (.agg #[x0, x1, x2, .slice a3 n3 m3, .slice a4 n4 m4, .slice a5 n5 m5, .int .i32 i, .int .i32 j, .slice a8 n8 m8, .slice a9 n9 m9, .slice a10 n10 m10]) w := by
  go_simp
theorem runBox (x0 x1 x2 x3 x4 x5 x6 x7 x8 x9 x10 : Value) (w : World) : (Instr.box 42 (.agg #[x0, x1, x2, x3, x4, x5, x6, x7, x8, x9, x10])).run Yba.prog w = .ok (.pointer (some ⟨w.heap.size, 0, none⟩)) (w.alloc (.cells #[x0, x1, x2, x3, x4, x5, x6, x7, x8, x9, x10] 42)) := by
  go_simp
theorem runAlloc (w : World) : (Instr.alloc 30 true (.tuple #[])).run Yba.prog w = .ok (.pointer (some ⟨w.heap.size, 0, none⟩)) (w.alloc (.cells #[.pointer none] 30)) := by
  go_simp
theorem runLoad (b : Nat) (v : Value) (w : World) (h : w.cell? ⟨b, 0, none⟩ = some v) : (Instr.loadAt 38 (.pointer (some ⟨b, 0, none⟩))).run Yba.prog w = .ok v w := by
  go_simp
theorem runStore (b c : Nat) (w : World) (h : w.cell? ⟨b, 0, none⟩ = some (.pointer none)) (hf : w.frozen? ⟨b, 0, none⟩ = false) : (Instr.storeAt 30 (.pointer (some ⟨b, 0, none⟩)) (.pointer (some ⟨c, 0, none⟩))).run Yba.prog w = .ok () (w.setCell ⟨b, 0, none⟩ (.pointer (some ⟨c, 0, none⟩))) := by
  go_simp

theorem inf21 : (Yba.prog.info? 21).map (fun i => (i.zero, i.size, i.bytes)) = some (some (.int .i32 0), 1, 4) := by kernel_rfl
theorem inf34 : (Yba.prog.info? 34).map (fun i => (i.zero, i.size, i.bytes)) = some (some (.slice none 0 0), 1, 24) := by kernel_rfl
theorem inf27 : (Yba.prog.info? 27).map (fun i => (i.zero, i.size, i.bytes)) = some (some (.int .i64 0), 1, 8) := by kernel_rfl
theorem inf3 : (Yba.prog.info? 3).map (fun i => (i.zero, i.size, i.bytes)) = some (some (.int .i64 0), 1, 8) := by kernel_rfl
theorem inf2 : (Yba.prog.info? 2).map (fun i => (i.zero, i.size, i.bytes)) = some (some (.int .i64 0), 1, 8) := by kernel_rfl

/-- One make: the operation, its slot, the elements' type, how many, the zero value. -/
structure Mk where
  i : Nat
  s : Nat
  t : TypeId
  len : Nat
  z : Value

def tbl (m n : Nat) : List Mk := [⟨2, 46, 21, 6 * m, .int .i32 0⟩, ⟨5, 49, 34, n + 2, .slice none 0 0⟩, ⟨8, 52, 27, 6 * m, .int .i64 0⟩, ⟨13, 57, 21, m, .int .i32 0⟩, ⟨19, 63, 3, n + 1, .int .i64 0⟩, ⟨22, 66, 34, n + 2, .slice none 0 0⟩, ⟨25, 69, 2, n + 2, .int .i64 0⟩]
def DD : List Nat := [46, 49, 52, 53, 54, 57, 63, 66, 69, 70, 71, 9]
def RR : List Nat := [2, 5, 8, 9, 10, 13, 19, 22, 25, 26, 27, 28, 29]
/-- Which operation fills which slot. -/
def SL : List (Nat × Nat) := [(2, 46), (5, 49), (8, 52), (9, 53), (10, 54), (13, 57), (19, 63), (22, 66), (25, 69), (26, 70), (27, 71), (28, 9)]

def RowV (w0 w : World) (v : Value) (t : TypeId) (len : Nat) (z : Value) : Prop := ∃ b, v = .slice (some ⟨b, 0, none⟩) len len ∧ w0.heap.size ≤ b ∧ w.rowIs b t len (fun _ => z)
theorem RowV.alloc {w0 w : World} {v : Value} {t : TypeId} {len : Nat} {z : Value} (h : RowV w0 w v t len z) (o : Obj) : RowV w0 (w.alloc o) v t len z := by
  obtain ⟨b, h1, h2, h3⟩ := h
  exact ⟨b, h1, h2, h3.alloc o⟩

/-- The struct's cells. -/
def cc (n : Nat) (nv dv : Value) (a : Act) : List Value := [a.eval (.tmp 46), a.eval (.tmp 49), a.eval (.tmp 52), nv, dv, a.eval (.tmp 57), .int .i32 (n : Nat), .int .i32 ((n + 1 : Nat) : Int), a.eval (.tmp 63), a.eval (.tmp 66), a.eval (.tmp 69)]

structure J (w0 : World) (a0 : Act) (m n : Nat) (nv dv : Value) (f : Nat → Bool) (a : Act) (w : World) : Prop where
  un : ∀ j, f j = false → j ∈ RR ∨ 30 ≤ j
  fr : Fr DD a0 a
  bel : Below w0.heap.size w0 w
  rows : ∀ r ∈ tbl m n, f r.i = true → RowV w0 w (a.eval (.tmp r.s)) r.t r.len r.z
  dis : ∀ r ∈ tbl m n, ∀ s ∈ tbl m n, r.i ≠ s.i → f r.i = true → f s.i = true → (a.eval (.tmp r.s)).ownBlock ≠ (a.eval (.tmp s.s)).ownBlock
  v9 : f 9 = true → f 2 = true ∧ f 5 = true ∧ f 8 = true ∧ a.eval (.tmp 53) = .agg #[a.eval (.tmp 46), a.eval (.tmp 49), a.eval (.tmp 52)]
  v10 : f 10 = true → a.eval (.tmp 54) = nv
  v26 : f 26 = true → (∀ r ∈ tbl m n, f r.i = true) ∧ a.eval (.tmp 70) = .agg (cc n nv dv a).toArray
  v27 : f 27 = true → f 26 = true ∧ ∃ bc, a.eval (.tmp 71) = .pointer (some ⟨bc, 0, none⟩) ∧ w0.heap.size ≤ bc ∧ w.rowIs bc 42 11 (fun i => (cc n nv dv a).getD i undef)
  v28 : f 28 = true → ∃ bv, a.eval (.tmp 9) = .pointer (some ⟨bv, 0, none⟩) ∧ w0.heap.size ≤ bv ∧ w.rowIs bv 30 1 (fun _ => .pointer none)

section
variable {w0 w : World} {a0 a : Act} {m n : Nat} {nv dv : Value} {f : Nat → Bool}

theorem J.alloc (h : J w0 a0 m n nv dv f a w) (o : Obj) : J w0 a0 m n nv dv f a (w.alloc o) := by
  refine ⟨h.un, h.fr, h.bel.alloc h.bel.size o, fun r hr hf => (h.rows r hr hf).alloc o, h.dis, h.v9, h.v10, h.v26, fun hf => ?_, fun hf => ?_⟩
  · obtain ⟨h1, bc, h2, h3, h4⟩ := h.v27 hf
    exact ⟨h1, bc, h2, h3, h4.alloc o⟩
  · obtain ⟨bv, h2, h3, h4⟩ := h.v28 hf
    exact ⟨bv, h2, h3, h4.alloc o⟩

theorem tbl_sl : ∀ r ∈ tbl m n, (r.i, r.s) ∈ SL := by
  intro r hr
  simp only [tbl, List.mem_cons, List.not_mem_nil, or_false] at hr
  rcases hr with rfl | rfl | rfl | rfl | rfl | rfl | rfl <;> simp [SL]

theorem J.put (h : J w0 a0 m n nv dv f a w) {i s : Nat} (hi : f i = false) (hs : s ∈ DD) (hinj : ∀ p ∈ SL, p.2 = s → p.1 = i) (v : Value) : J w0 a0 m n nv dv f (a.put (some s) v) w := by
  have key : ∀ {j d : Nat}, (j, d) ∈ SL → f j = true → (a.put (some s) v).eval (.tmp d) = a.eval (.tmp d) := by
    intro j d hp hj
    refine put_eval_ne (fun e => ?_) v
    have := hinj _ hp e.symm
    simp only at this
    subst this
    rw [hi] at hj
    cases hj
  have kr : ∀ r ∈ tbl m n, f r.i = true → (a.put (some s) v).eval (.tmp r.s) = a.eval (.tmp r.s) := fun r hr hf => key (tbl_sl r hr) hf
  have kc : (∀ r ∈ tbl m n, f r.i = true) → cc n nv dv (a.put (some s) v) = cc n nv dv a := by
    intro hall
    have e1 := key (j := 2) (d := 46) (by decide) (hall ⟨2, 46, 21, 6 * m, .int .i32 0⟩ (by simp [tbl]))
    have e2 := key (j := 5) (d := 49) (by decide) (hall ⟨5, 49, 34, n + 2, .slice none 0 0⟩ (by simp [tbl]))
    have e3 := key (j := 8) (d := 52) (by decide) (hall ⟨8, 52, 27, 6 * m, .int .i64 0⟩ (by simp [tbl]))
    have e4 := key (j := 13) (d := 57) (by decide) (hall ⟨13, 57, 21, m, .int .i32 0⟩ (by simp [tbl]))
    have e5 := key (j := 19) (d := 63) (by decide) (hall ⟨19, 63, 3, n + 1, .int .i64 0⟩ (by simp [tbl]))
    have e6 := key (j := 22) (d := 66) (by decide) (hall ⟨22, 66, 34, n + 2, .slice none 0 0⟩ (by simp [tbl]))
    have e7 := key (j := 25) (d := 69) (by decide) (hall ⟨25, 69, 2, n + 2, .int .i64 0⟩ (by simp [tbl]))
    simp only [cc, e1, e2, e3, e4, e5, e6, e7]
  refine ⟨h.un, h.fr.put hs v, h.bel, fun r hr hf => by rw [kr r hr hf]; exact h.rows r hr hf, fun r hr s' hs' hne hf hf' => by rw [kr r hr hf, kr s' hs' hf']; exact h.dis r hr s' hs' hne hf hf', fun hf => ?_, fun hf => ?_, fun hf => ?_, fun hf => ?_, fun hf => ?_⟩
  · obtain ⟨h1, h2, h3, h4⟩ := h.v9 hf
    rw [key (j := 9) (by decide) hf, key (j := 2) (by decide) h1, key (j := 5) (by decide) h2, key (j := 8) (by decide) h3]
    exact ⟨h1, h2, h3, h4⟩
  · rw [key (j := 10) (by decide) hf]; exact h.v10 hf
  · obtain ⟨h1, h2⟩ := h.v26 hf
    rw [key (j := 26) (by decide) hf, kc h1]
    exact ⟨h1, h2⟩
  · obtain ⟨h1, bc, h2, h3, h4⟩ := h.v27 hf
    rw [key (j := 27) (by decide) hf, kc (h.v26 h1).1]
    exact ⟨h1, bc, h2, h3, h4⟩
  · obtain ⟨bv, h2, h3, h4⟩ := h.v28 hf
    rw [key (j := 28) (by decide) hf]
    exact ⟨bv, h2, h3, h4⟩

def mark (f : Nat → Bool) (i : Nat) : Nat → Bool := fun j => if j = i then true else f j
theorem mark_old {i j : Nat} (h : f j = true) : mark f i j = true := by unfold mark; split <;> first | rfl | exact h
theorem mark_ne {i j : Nat} (h : j ≠ i) : mark f i j = f j := by unfold mark; rw [if_neg h]

theorem J.mark (h : J w0 a0 m n nv dv f a w) (i : Nat)
    (hrow : ∀ r ∈ tbl m n, r.i = i → RowV w0 w (a.eval (.tmp r.s)) r.t r.len r.z ∧ ∀ s ∈ tbl m n, s.i ≠ i → f s.i = true → (a.eval (.tmp r.s)).ownBlock ≠ (a.eval (.tmp s.s)).ownBlock)
    (h9 : i = 9 → f 2 = true ∧ f 5 = true ∧ f 8 = true ∧ a.eval (.tmp 53) = .agg #[a.eval (.tmp 46), a.eval (.tmp 49), a.eval (.tmp 52)])
    (h10 : i = 10 → a.eval (.tmp 54) = nv)
    (h26 : i = 26 → (∀ r ∈ tbl m n, f r.i = true) ∧ a.eval (.tmp 70) = .agg (cc n nv dv a).toArray)
    (h27 : i = 27 → f 26 = true ∧ ∃ bc, a.eval (.tmp 71) = .pointer (some ⟨bc, 0, none⟩) ∧ w0.heap.size ≤ bc ∧ w.rowIs bc 42 11 (fun i => (cc n nv dv a).getD i undef))
    (h28 : i = 28 → ∃ bv, a.eval (.tmp 9) = .pointer (some ⟨bv, 0, none⟩) ∧ w0.heap.size ≤ bv ∧ w.rowIs bv 30 1 (fun _ => .pointer none)) : J w0 a0 m n nv dv (mark f i) a w := by
  refine ⟨fun j hj => ?_, h.fr, h.bel, fun r hr hf => ?_, fun r hr s hs hne hf hf' => ?_, fun hf => ?_, fun hf => ?_, fun hf => ?_, fun hf => ?_, fun hf => ?_⟩
  · by_cases e : j = i
    · subst e; simp [W.mark] at hj
    · rw [mark_ne e] at hj; exact h.un j hj
  · by_cases e : r.i = i
    · exact (hrow r hr e).1
    · rw [mark_ne e] at hf; exact h.rows r hr hf
  · by_cases e : r.i = i
    · have e' : s.i ≠ i := fun e2 => hne (e.trans e2.symm)
      rw [mark_ne e'] at hf'
      exact (hrow r hr e).2 s hs e' hf'
    · rw [mark_ne e] at hf
      by_cases e' : s.i = i
      · exact Ne.symm ((hrow s hs e').2 r hr e hf)
      · rw [mark_ne e'] at hf'
        exact h.dis r hr s hs hne hf hf'
  · by_cases e : 9 = i
    · obtain ⟨h1, h2, h3, h4⟩ := h9 e.symm
      exact ⟨mark_old h1, mark_old h2, mark_old h3, h4⟩
    · rw [mark_ne e] at hf
      obtain ⟨h1, h2, h3, h4⟩ := h.v9 hf
      exact ⟨mark_old h1, mark_old h2, mark_old h3, h4⟩
  · by_cases e : 10 = i
    · exact h10 e.symm
    · rw [mark_ne e] at hf; exact h.v10 hf
  · by_cases e : 26 = i
    · obtain ⟨h1, h2⟩ := h26 e.symm
      exact ⟨fun r hr => mark_old (h1 r hr), h2⟩
    · rw [mark_ne e] at hf
      obtain ⟨h1, h2⟩ := h.v26 hf
      exact ⟨fun r hr => mark_old (h1 r hr), h2⟩
  · by_cases e : 27 = i
    · obtain ⟨h1, h2⟩ := h27 e.symm
      exact ⟨mark_old h1, h2⟩
    · rw [mark_ne e] at hf
      obtain ⟨h1, h2⟩ := h.v27 hf
      exact ⟨mark_old h1, h2⟩
  · by_cases e : 28 = i
    · exact h28 e.symm
    · rw [mark_ne e] at hf; exact h.v28 hf
end

def deps (o : Oper) (ks : List Nat) : Bool := ks.all fun k => o.after.any fun e => e.on == k && Region.binds .any e
theorem deps_spec {o : Oper} {ks : List Nat} (h : deps o ks = true) {f : Nat → Bool} (hall : ∀ e ∈ o.after, Region.binds .any e = true → f e.on = true) : ∀ k ∈ ks, f k = true := by
  intro k hk
  have h1 := List.all_eq_true.1 h k hk
  obtain ⟨e, he, h2⟩ := Array.any_eq_true'.1 h1
  simp only [Bool.and_eq_true, beq_iff_eq] at h2
  rw [← h2.1]
  exact hall e he h2.2

theorem wpOp_val {P : Program} {ops : Array Oper} {Q : Exit → Act → World → Prop} {i : Nat} {K : Act → World → Prop} {a : Act} {w w' : World} {o : Oper} {v : Value} (ho : ops[i]? = some o) (hg : o.guard = none) (hrun : (execOp a.eval o).run P w = .ok (.value v) w') (h : K (a.put o.dst v) w') : wpOp P ops Q i K a w := by
  have hw : Region.wanted o (yielded ops a.tmps) = true := by simp [Region.wanted, hg]
  unfold wpOp
  rw [ho]
  simp only [hw, if_true]
  left
  unfold Oper.wp
  rw [hrun]
  exact h
theorem wpOp_skip {P : Program} {ops : Array Oper} {Q : Exit → Act → World → Prop} {i : Nat} {K : Act → World → Prop} {a : Act} {w w' : World} {o : Oper} (ho : ops[i]? = some o) (hg : o.guard = none) (hrun : (execOp a.eval o).run P w = .ok .skip w') (h : K (a.put o.dst undef) w') : wpOp P ops Q i K a w := by
  have hw : Region.wanted o (yielded ops a.tmps) = true := by simp [Region.wanted, hg]
  unfold wpOp
  rw [ho]
  simp only [hw, if_true]
  left
  unfold Oper.wp
  rw [hrun]
  exact h

/-- The operations that are left. -/
structure OpsAt (ops : Array Oper) : Prop where
  sz : ops.size = 30
  bk : back ops = true
  o2 : ∃ o, ops[2]? = some o ∧ o.guard = none ∧ o.dst = some 46 ∧ o.op = .makeSlice 34 (.tmp 45) (.tmp 45)
  o5 : ∃ o, ops[5]? = some o ∧ o.guard = none ∧ o.dst = some 49 ∧ o.op = .makeSlice 35 (.tmp 48) (.tmp 48)
  o8 : ∃ o, ops[8]? = some o ∧ o.guard = none ∧ o.dst = some 52 ∧ o.op = .makeSlice 32 (.tmp 51) (.tmp 51)
  o9 : ∃ o, ops[9]? = some o ∧ o.guard = none ∧ o.dst = some 53 ∧ o.op = .build 37 #[(0, .tmp 46), (1, .tmp 49), (2, .tmp 52)] ∧ deps o [2, 5, 8] = true
  o10 : ∃ o, ops[10]? = some o ∧ o.guard = none ∧ o.dst = some 54 ∧ o.op = .load 38 (.tmp 3)
  o13 : ∃ o, ops[13]? = some o ∧ o.guard = none ∧ o.dst = some 57 ∧ o.op = .makeSlice 34 (.tmp 56) (.tmp 56)
  o19 : ∃ o, ops[19]? = some o ∧ o.guard = none ∧ o.dst = some 63 ∧ o.op = .makeSlice 39 (.tmp 62) (.tmp 62)
  o22 : ∃ o, ops[22]? = some o ∧ o.guard = none ∧ o.dst = some 66 ∧ o.op = .makeSlice 35 (.tmp 65) (.tmp 65)
  o25 : ∃ o, ops[25]? = some o ∧ o.guard = none ∧ o.dst = some 69 ∧ o.op = .makeSlice 40 (.tmp 68) (.tmp 68)
  o26 : ∃ o, ops[26]? = some o ∧ o.guard = none ∧ o.dst = some 70 ∧ o.op = .build 42 #[(0, .tmp 53), (1, .tmp 54), (2, .tmp 55), (3, .tmp 57), (4, .tmp 58), (5, .tmp 60), (6, .tmp 63), (7, .tmp 66), (8, .tmp 69)] ∧ deps o [9, 10, 13, 19, 22, 25] = true
  o27 : ∃ o, ops[27]? = some o ∧ o.guard = none ∧ o.dst = some 71 ∧ o.op = .box 42 (.tmp 70) ∧ deps o [26] = true
  o28 : ∃ o, ops[28]? = some o ∧ o.guard = none ∧ o.dst = some 9 ∧ o.op = .alloc 30
  o29 : ∃ o, ops[29]? = some o ∧ o.guard = none ∧ o.dst = none ∧ o.op = .store 30 (.tmp 9) (.tmp 71) ∧ deps o (List.range 29) = true

theorem tbl_inj {m n : Nat} : ∀ r ∈ tbl m n, ∀ s ∈ tbl m n, r.i = s.i → r = s := by
  intro r hr s hs h
  simp only [tbl, List.mem_cons, List.not_mem_nil, or_false] at hr hs
  rcases hr with rfl | rfl | rfl | rfl | rfl | rfl | rfl <;> rcases hs with rfl | rfl | rfl | rfl | rfl | rfl | rfl <;> first | rfl | (simp at h)
theorem tbl_ne {m n : Nat} : ∀ r ∈ tbl m n, r.i ≠ 9 ∧ r.i ≠ 10 ∧ r.i ≠ 26 ∧ r.i ≠ 27 ∧ r.i ≠ 28 ∧ r.s ∈ DD ∧ ∀ p ∈ SL, p.2 = r.s → p.1 = r.i := by
  intro r hr
  simp only [tbl, List.mem_cons, List.not_mem_nil, or_false] at hr
  rcases hr with rfl | rfl | rfl | rfl | rfl | rfl | rfl <;> simp [DD, SL]

section
variable {w0 w : World} {a0 a : Act} {m n : Nat} {nv dv : Value} {f : Nat → Bool} {ops : Array Oper} {Q : Exit → Act → World → Prop}

theorem J.make (h : J w0 a0 m n nv dv f a w) {K : Act → World → Prop} (r : Mk) (hr : r ∈ tbl m n) (hi : f r.i = false) {o : Oper} (ho : ops[r.i]? = some o) (hg : o.guard = none) (hdst : o.dst = some r.s) (T : TypeId) (x : Nat) (hop : o.op = .makeSlice T (.tmp x) (.tmp x))
    (hu : Yba.prog.underlying T = some (.slice r.t)) (bytes : Nat) (hinf : (Yba.prog.info? r.t).map (fun i => (i.zero, i.size, i.bytes)) = some (some r.z, 1, bytes)) (hz1 : r.z.cells = #[r.z]) (kd : IntKind) (hx : a0.eval (.tmp x) = .int kd (r.len : Nat)) (hxD : x ∉ DD) (hlen : r.len ≤ 100000) (hby : bytes ≤ 24) (hsz : a0.tmps.size = 170)
    (hK : ∀ a' w', J w0 a0 m n nv dv (W.mark f r.i) a' w' → K a' w') : wpOp Yba.prog ops Q r.i K a w := by
  obtain ⟨n9, n10, n26, n27, n28, hD, hinj⟩ := tbl_ne r hr
  have hrun : (execOp a.eval o).run Yba.prog w = .ok (.value (.slice (some ⟨w.heap.size, 0, none⟩) r.len r.len)) (w.alloc (.cells (madeCells #[r.z] r.len) r.t)) := by
    have hb : bytes * r.len ≤ 281474976710656 := Nat.le_trans (Nat.mul_le_mul hby hlen) (by decide)
    have h1 := run_make_row' (P := Yba.prog) T r.t r.z bytes hu hinf hz1 kd kd r.len hb (by omega) w
    have e : a.eval (.tmp x) = .int kd (r.len : Nat) := (h.fr.eval hxD).trans hx
    unfold execOp
    simp [hop, e, h1, Result.andThen]
  have hlt : r.s < a.tmps.size := by
    rw [h.fr.sz, hsz]
    have : ∀ d ∈ DD, d < 170 := by decide
    exact this _ hD
  refine wpOp_val ho hg hrun (hK _ _ ?_)
  rw [hdst]
  have hev : (a.put (some r.s) (.slice (some ⟨w.heap.size, 0, none⟩) r.len r.len)).eval (.tmp r.s) = .slice (some ⟨w.heap.size, 0, none⟩) r.len r.len := put_eval hlt _
  refine ((h.put hi hD hinj _).alloc _).mark r.i (fun r' hr' e => ?_) (fun e => absurd e n9) (fun e => absurd e n10) (fun e => absurd e n26) (fun e => absurd e n27) (fun e => absurd e n28)
  have := tbl_inj r' hr' r hr e
  subst this
  rw [hev]
  refine ⟨⟨w.heap.size, rfl, h.bel.size, World.rowIs_made w r'.z r'.len r'.t⟩, fun s hs hne hf => ?_⟩
  have hss : r'.s ≠ s.s := fun e2 => by
    have := hinj _ (tbl_sl s hs) e2.symm
    exact hne this
  rw [put_eval_ne hss]
  obtain ⟨b, h1, _, h3⟩ := h.rows s hs hf
  have := h3.lt
  rw [h1]
  simp [Value.ownBlock]
  omega

/-- What stands behind the region. -/
structure Fin (w0 : World) (a0 : Act) (m n : Nat) (nv dv : Value) (a : Act) (w : World) (bh bo br bq bf ba bp bc bv : Nat) : Prop where
  fr : Fr DD a0 a
  s9 : a.eval (.tmp 9) = .pointer (some ⟨bv, 0, none⟩)
  bel : Below w0.heap.size w0 w
  ge : w0.heap.size ≤ bh ∧ w0.heap.size ≤ br ∧ w0.heap.size ≤ bq ∧ w0.heap.size ≤ bf ∧ w0.heap.size ≤ ba ∧ w0.heap.size ≤ bp ∧ w0.heap.size ≤ bc ∧ w0.heap.size ≤ bv
  hh : w.rowIs bh 21 (6 * m) (fun _ => .int .i32 0)
  rr : w.rowIs br 27 (6 * m) (fun _ => .int .i64 0)
  qq : w.rowIs bq 21 m (fun _ => .int .i32 0)
  ff : w.rowIs bf 3 (n + 1) (fun _ => .int .i64 0)
  aa : w.rowIs ba 34 (n + 2) (fun _ => .slice none 0 0)
  pp : w.rowIs bp 2 (n + 2) (fun _ => .int .i64 0)
  cx : w.rowIs bc 42 11 (fun i => ([.slice (some ⟨bh, 0, none⟩) (6 * m) (6 * m), .slice (some ⟨bo, 0, none⟩) (n + 2) (n + 2), .slice (some ⟨br, 0, none⟩) (6 * m) (6 * m), nv, dv, .slice (some ⟨bq, 0, none⟩) m m, .int .i32 (n : Nat), .int .i32 ((n + 1 : Nat) : Int), .slice (some ⟨bf, 0, none⟩) (n + 1) (n + 1), .slice (some ⟨ba, 0, none⟩) (n + 2) (n + 2), .slice (some ⟨bp, 0, none⟩) (n + 2) (n + 2)] : List Value).getD i undef)
  vv : w.rowIs bv 30 1 (fun _ => .pointer (some ⟨bc, 0, none⟩))
  hq : bh ≠ bq

theorem J.fin (h : J w0 a0 m n nv dv f a w) (hall : ∀ k ∈ List.range 29, f k = true) : ∃ bh bo br bq bf ba bp bc bv, a.eval (.tmp 71) = .pointer (some ⟨bc, 0, none⟩) ∧ w.cell? ⟨bv, 0, none⟩ = some (.pointer none) ∧ w.frozen? ⟨bv, 0, none⟩ = false ∧ a.eval (.tmp 9) = .pointer (some ⟨bv, 0, none⟩) ∧ Fin w0 a0 m n nv dv a (w.setCell ⟨bv, 0, none⟩ (.pointer (some ⟨bc, 0, none⟩))) bh bo br bq bf ba bp bc bv := by
  have F : ∀ k, k < 29 → f k = true := fun k hk => hall k (List.mem_range.2 hk)
  obtain ⟨bh, eh, gh, hh⟩ := h.rows ⟨2, 46, 21, 6 * m, .int .i32 0⟩ (by simp [tbl]) (F 2 (by omega))
  obtain ⟨bo, eo, _, _⟩ := h.rows ⟨5, 49, 34, n + 2, .slice none 0 0⟩ (by simp [tbl]) (F 5 (by omega))
  obtain ⟨br, er, gr, hr⟩ := h.rows ⟨8, 52, 27, 6 * m, .int .i64 0⟩ (by simp [tbl]) (F 8 (by omega))
  obtain ⟨bq, eq, gq, hq⟩ := h.rows ⟨13, 57, 21, m, .int .i32 0⟩ (by simp [tbl]) (F 13 (by omega))
  obtain ⟨bf, ef, gf, hf⟩ := h.rows ⟨19, 63, 3, n + 1, .int .i64 0⟩ (by simp [tbl]) (F 19 (by omega))
  obtain ⟨ba, ea, ga, ha⟩ := h.rows ⟨22, 66, 34, n + 2, .slice none 0 0⟩ (by simp [tbl]) (F 22 (by omega))
  obtain ⟨bp, ep, gp, hp⟩ := h.rows ⟨25, 69, 2, n + 2, .int .i64 0⟩ (by simp [tbl]) (F 25 (by omega))
  obtain ⟨_, bc, ec, gc, hc⟩ := h.v27 (F 27 (by omega))
  obtain ⟨bv, ev, gv, hv⟩ := h.v28 (F 28 (by omega))
  have hd := h.dis ⟨2, 46, 21, 6 * m, .int .i32 0⟩ (by simp [tbl]) ⟨13, 57, 21, m, .int .i32 0⟩ (by simp [tbl]) (by simp) (F 2 (by omega)) (F 13 (by omega))
  simp only at eh eo er eq ef ea ep hh hr hq hf ha hp hd
  have ne : ∀ {b : Nat} {t : TypeId} {k : Nat} {g : Nat → Value}, w.rowIs b t k g → t ≠ 30 → b ≠ bv := by
    intro b t k g hb ht e
    subst e
    obtain ⟨c1, h1, _⟩ := hb
    obtain ⟨c2, h2, _⟩ := hv
    rw [h1] at h2
    simp at h2
    exact ht h2.2
  have st : ∀ {b : Nat} {t : TypeId} {k : Nat} {g : Nat → Value}, w.rowIs b t k g → t ≠ 30 → (w.setCell ⟨bv, 0, none⟩ (.pointer (some ⟨bc, 0, none⟩))).rowIs b t k g := fun hb ht => hb.setOther (a := ⟨bv, 0, none⟩) (ne hb ht) _
  refine ⟨bh, bo, br, bq, bf, ba, bp, bc, bv, ec, hv.cell (by omega), hv.frozen 0, ev, ⟨h.fr, ev, h.bel.setCell (p := ⟨bv, 0, none⟩) gv _, ⟨gh, gr, gq, gf, ga, gp, gc, gv⟩, st hh (by decide), st hr (by decide), st hq (by decide), st hf (by decide), st ha (by decide), st hp (by decide), ?_, ?_, ?_⟩⟩
  · have e : cc n nv dv a = [.slice (some ⟨bh, 0, none⟩) (6 * m) (6 * m), .slice (some ⟨bo, 0, none⟩) (n + 2) (n + 2), .slice (some ⟨br, 0, none⟩) (6 * m) (6 * m), nv, dv, .slice (some ⟨bq, 0, none⟩) m m, .int .i32 (n : Nat), .int .i32 ((n + 1 : Nat) : Int), .slice (some ⟨bf, 0, none⟩) (n + 1) (n + 1), .slice (some ⟨ba, 0, none⟩) (n + 2) (n + 2), .slice (some ⟨bp, 0, none⟩) (n + 2) (n + 2)] := by
      simp only [cc, eh, eo, er, eq, ef, ea, ep]
    rw [e] at hc
    exact st hc (by decide)
  · exact (hv.set 0 _).congr (fun j hj => by have : j = 0 := by omega
                                             simp [this])
  · rw [eh, eq] at hd
    simpa [Value.ownBlock] using hd

/-- THE REGION, from where the makes, the two builds, the box, the variable and the store are left. -/
theorem makes (hO : OpsAt ops) (bn : Nat) (na da : Option Addr) (nl nc dl dc : Nat) (hnv : nv = .slice na nl nc) (hdv : dv = .slice da dl dc) (hm : m ≤ 1024) (hn : n ≤ 4000) (hsz : a0.tmps.size = 170)
    (e45 : a0.eval (.tmp 45) = .int .i64 ((6 * m : Nat) : Int)) (e48 : a0.eval (.tmp 48) = .int .i32 ((n + 2 : Nat) : Int)) (e51 : a0.eval (.tmp 51) = .int .i64 ((6 * m : Nat) : Int)) (e56 : a0.eval (.tmp 56) = .int .i64 (m : Nat))
    (e62 : a0.eval (.tmp 62) = .int .i32 ((n + 1 : Nat) : Int)) (e65 : a0.eval (.tmp 65) = .int .i32 ((n + 2 : Nat) : Int)) (e68 : a0.eval (.tmp 68) = .int .i32 ((n + 2 : Nat) : Int))
    (e3 : a0.eval (.tmp 3) = .pointer (some ⟨bn, 0, none⟩)) (e55 : a0.eval (.tmp 55) = dv) (e58 : a0.eval (.tmp 58) = .int .i32 (n : Nat)) (e60 : a0.eval (.tmp 60) = .int .i32 ((n + 1 : Nat) : Int)) (hbn : w0.cell? ⟨bn, 0, none⟩ = some nv)
    (hQ : ∀ a w bh bo br bq bf ba bp bc bv, Fin w0 a0 m n nv dv a w bh bo br bq bf ba bp bc bv → Q .normal a w)
    (fuel : Nat) (listed : Array Bool) (hls : listed.size = 30) (hcnt : listed.toList.count false ≤ fuel) (hl1 : ∀ j, listed.getD j false = false → j ∈ RR ∨ 30 ≤ j) (hl2 : ∀ j ∈ RR, listed.getD j false = false) : wpAny Yba.prog .any ops Q fuel listed a0 w0 := by
  refine wpAny_inv hO.bk (fun f a w => (f 29 = false ∧ J w0 a0 m n nv dv f a w) ∨ ((∀ j, j < 30 → f j = true) ∧ ∃ bh bo br bq bf ba bp bc bv, Fin w0 a0 m n nv dv a w bh bo br bq bf ba bp bc bv)) ?_ ?_ fuel listed a0 w0 (by rw [hls, hO.sz]) hcnt (.inl ⟨hl2 29 (by decide), ?_⟩)
  · intro f a w hI i o ho hi hall
    rcases hI with ⟨h29, h⟩ | ⟨hf, _⟩
    rotate_left
    · have := hf i (by rw [← hO.sz]; exact (Array.getElem?_eq_some_iff.1 ho).1)
      rw [hi] at this
      cases this
    have hin : i ≠ 29 → ∀ a' w', J w0 a0 m n nv dv (W.mark f i) a' w' → ((fun j => if j = i then true else f j) 29 = false ∧ J w0 a0 m n nv dv (fun j => if j = i then true else f j) a' w') ∨ ((∀ j, j < 30 → (fun j => if j = i then true else f j) j = true) ∧ ∃ bh bo br bq bf ba bp bc bv, Fin w0 a0 m n nv dv a' w' bh bo br bq bf ba bp bc bv) :=
      fun hne a' w' hJ => .inl ⟨by simp [Ne.symm hne, h29], hJ⟩
    have hlt : ∀ d, d < 170 → d < a.tmps.size := fun d hd => by rw [h.fr.sz, hsz]; exact hd
    rcases h.un i hi with hR | hR
    rotate_left
    · have := (Array.getElem?_eq_some_iff.1 ho).1
      rw [hO.sz] at this
      omega
    simp only [RR, List.mem_cons, List.not_mem_nil, or_false] at hR
    rcases hR with rfl | rfl | rfl | rfl | rfl | rfl | rfl | rfl | rfl | rfl | rfl | rfl | rfl
    · obtain ⟨o', ho', hg, hd, hop⟩ := hO.o2
      exact h.make ⟨2, 46, 21, 6 * m, .int .i32 0⟩ (by simp [tbl]) hi ho' hg hd 34 45 hop Yba.underlying34 4 inf21 rfl .i64 e45 (by decide) (by simp; omega) (by omega) hsz (hin (by decide))
    · obtain ⟨o', ho', hg, hd, hop⟩ := hO.o5
      exact h.make ⟨5, 49, 34, n + 2, .slice none 0 0⟩ (by simp [tbl]) hi ho' hg hd 35 48 hop Yba.underlying35 24 inf34 rfl .i32 e48 (by decide) (by simp; omega) (by omega) hsz (hin (by decide))
    · obtain ⟨o', ho', hg, hd, hop⟩ := hO.o8
      exact h.make ⟨8, 52, 27, 6 * m, .int .i64 0⟩ (by simp [tbl]) hi ho' hg hd 32 51 hop Yba.underlying32 8 inf27 rfl .i64 e51 (by decide) (by simp; omega) (by omega) hsz (hin (by decide))
    · obtain ⟨o', ho', hg, hd, hop, hdp⟩ := hO.o9
      obtain rfl : o = o' := by rw [ho] at ho'; exact Option.some.inj ho'
      have D := deps_spec hdp hall
      have f2 := D 2 (by simp)
      have f5 := D 5 (by simp)
      have f8 := D 8 (by simp)
      obtain ⟨b2, e46, _⟩ := h.rows ⟨2, 46, 21, 6 * m, .int .i32 0⟩ (by simp [tbl]) f2
      obtain ⟨b5, e49, _⟩ := h.rows ⟨5, 49, 34, n + 2, .slice none 0 0⟩ (by simp [tbl]) f5
      obtain ⟨b8, e52, _⟩ := h.rows ⟨8, 52, 27, 6 * m, .int .i64 0⟩ (by simp [tbl]) f8
      simp only at e46 e49 e52
      refine wpOp_val ho hg (v := .agg #[a.eval (.tmp 46), a.eval (.tmp 49), a.eval (.tmp 52)]) (w' := w) ?_ (hin (by decide) _ _ ?_)
      · unfold execOp
        simp [hop, e46, e49, e52, run37, Result.andThen]
      · rw [hd]
        refine (h.put hi (by decide) (by decide) _).mark 9 (fun r hr e => absurd e (tbl_ne r hr).1) (fun _ => ⟨f2, f5, f8, ?_⟩) (fun e => absurd e (by decide)) (fun e => absurd e (by decide)) (fun e => absurd e (by decide)) (fun e => absurd e (by decide))
        rw [put_eval (hlt 53 (by decide)), put_eval_ne (by decide), put_eval_ne (by decide), put_eval_ne (by decide)]
    · obtain ⟨o', ho', hg, hd, hop⟩ := hO.o10
      obtain rfl : o = o' := by rw [ho] at ho'; exact Option.some.inj ho'
      have e3' : a.eval (.tmp 3) = .pointer (some ⟨bn, 0, none⟩) := (h.fr.eval (by decide)).trans e3
      have hc : w.cell? ⟨bn, 0, none⟩ = some nv := (h.bel.cell (p := ⟨bn, 0, none⟩) (World.block_lt_of_cell? w0 _ hbn)).trans hbn
      refine wpOp_val ho hg (v := nv) (w' := w) ?_ (hin (by decide) _ _ ?_)
      · unfold execOp
        simp [hop, e3', runLoad bn nv w hc, Result.andThen]
      · rw [hd]
        refine (h.put hi (by decide) (by decide) _).mark 10 (fun r hr e => absurd e (tbl_ne r hr).2.1) (fun e => absurd e (by decide)) (fun _ => ?_) (fun e => absurd e (by decide)) (fun e => absurd e (by decide)) (fun e => absurd e (by decide))
        rw [put_eval (hlt 54 (by decide))]
    · obtain ⟨o', ho', hg, hd, hop⟩ := hO.o13
      exact h.make ⟨13, 57, 21, m, .int .i32 0⟩ (by simp [tbl]) hi ho' hg hd 34 56 hop Yba.underlying34 4 inf21 rfl .i64 e56 (by decide) (by simp; omega) (by omega) hsz (hin (by decide))
    · obtain ⟨o', ho', hg, hd, hop⟩ := hO.o19
      exact h.make ⟨19, 63, 3, n + 1, .int .i64 0⟩ (by simp [tbl]) hi ho' hg hd 39 62 hop Yba.underlying39 8 inf3 rfl .i32 e62 (by decide) (by simp; omega) (by omega) hsz (hin (by decide))
    · obtain ⟨o', ho', hg, hd, hop⟩ := hO.o22
      exact h.make ⟨22, 66, 34, n + 2, .slice none 0 0⟩ (by simp [tbl]) hi ho' hg hd 35 65 hop Yba.underlying35 24 inf34 rfl .i32 e65 (by decide) (by simp; omega) (by omega) hsz (hin (by decide))
    · obtain ⟨o', ho', hg, hd, hop⟩ := hO.o25
      exact h.make ⟨25, 69, 2, n + 2, .int .i64 0⟩ (by simp [tbl]) hi ho' hg hd 40 68 hop Yba.underlying40 8 inf2 rfl .i32 e68 (by decide) (by simp; omega) (by omega) hsz (hin (by decide))
    · obtain ⟨o', ho', hg, hd, hop, hdp⟩ := hO.o26
      obtain rfl : o = o' := by rw [ho] at ho'; exact Option.some.inj ho'
      have D := deps_spec hdp hall
      obtain ⟨f2, f5, f8, e53⟩ := h.v9 (D 9 (by simp))
      have e54 := h.v10 (D 10 (by simp))
      obtain ⟨b13, e57, _⟩ := h.rows ⟨13, 57, 21, m, .int .i32 0⟩ (by simp [tbl]) (D 13 (by simp))
      obtain ⟨b19, e63, _⟩ := h.rows ⟨19, 63, 3, n + 1, .int .i64 0⟩ (by simp [tbl]) (D 19 (by simp))
      obtain ⟨b22, e66, _⟩ := h.rows ⟨22, 66, 34, n + 2, .slice none 0 0⟩ (by simp [tbl]) (D 22 (by simp))
      obtain ⟨b25, e69, _⟩ := h.rows ⟨25, 69, 2, n + 2, .int .i64 0⟩ (by simp [tbl]) (D 25 (by simp))
      have e55' : a.eval (.tmp 55) = dv := (h.fr.eval (by decide)).trans e55
      have e58' : a.eval (.tmp 58) = .int .i32 (n : Nat) := (h.fr.eval (by decide)).trans e58
      have e60' : a.eval (.tmp 60) = .int .i32 ((n + 1 : Nat) : Int) := (h.fr.eval (by decide)).trans e60
      simp only at e57 e63 e66 e69
      have hallt : ∀ r ∈ tbl m n, f r.i = true := by
        intro r hr
        simp only [tbl, List.mem_cons, List.not_mem_nil, or_false] at hr
        rcases hr with rfl | rfl | rfl | rfl | rfl | rfl | rfl
        · exact f2
        · exact f5
        · exact f8
        · exact D 13 (by simp)
        · exact D 19 (by simp)
        · exact D 22 (by simp)
        · exact D 25 (by simp)
      have hrun : (execOp a.eval o).run Yba.prog w = .ok (.value (.agg (cc n nv dv a).toArray)) w := by
        have e54' := e54
        unfold execOp cc
        rw [hnv] at e54'
        rw [hdv] at e55'
        simp only [hop, List.map_toArray, List.map_cons, List.map_nil, e53, e54', e55', e57, e58', e60', e63, e66, e69, Sem.run_bind, run42, Result.andThen_ok, Sem.run_pure, hnv, hdv]
      refine wpOp_val ho hg hrun (hin (by decide) _ _ ?_)
      rw [hd]
      refine (h.put hi (by decide) (by decide) _).mark 26 (fun r hr e => absurd e (tbl_ne r hr).2.2.1) (fun e => absurd e (by decide)) (fun e => absurd e (by decide)) (fun _ => ⟨hallt, ?_⟩) (fun e => absurd e (by decide)) (fun e => absurd e (by decide))
      rw [put_eval (hlt 70 (by decide))]
      unfold cc
      rw [put_eval_ne (by decide), put_eval_ne (by decide), put_eval_ne (by decide), put_eval_ne (by decide), put_eval_ne (by decide), put_eval_ne (by decide), put_eval_ne (by decide)]
    · obtain ⟨o', ho', hg, hd, hop, hdp⟩ := hO.o27
      obtain rfl : o = o' := by rw [ho] at ho'; exact Option.some.inj ho'
      have f26 := deps_spec hdp hall 26 (by simp)
      have e70 := (h.v26 f26).2
      have hrun : (execOp a.eval o).run Yba.prog w = .ok (.value (.pointer (some ⟨w.heap.size, 0, none⟩))) (w.alloc (.cells (cc n nv dv a).toArray 42)) := by
        unfold cc at e70
        unfold execOp cc
        simp only [hop, e70, Sem.run_bind, runBox, Result.andThen_ok, Sem.run_pure]
      refine wpOp_val ho hg hrun (hin (by decide) _ _ ?_)
      rw [hd]
      refine ((h.put hi (by decide) (by decide) _).alloc _).mark 27 (fun r hr e => absurd e (tbl_ne r hr).2.2.2.1) (fun e => absurd e (by decide)) (fun e => absurd e (by decide)) (fun e => absurd e (by decide)) (fun _ => ⟨f26, w.heap.size, ?_, h.bel.size, ?_⟩) (fun e => absurd e (by decide))
      · rw [put_eval (hlt 71 (by decide))]
      · have e : cc n nv dv (a.put (some 71) (.pointer (some ⟨w.heap.size, 0, none⟩))) = cc n nv dv a := by
          unfold cc
          rw [put_eval_ne (by decide), put_eval_ne (by decide), put_eval_ne (by decide), put_eval_ne (by decide), put_eval_ne (by decide), put_eval_ne (by decide), put_eval_ne (by decide)]
        rw [e]
        refine World.rowIs_alloc w (cc n nv dv a).toArray 42 _ (fun i hi => ?_)
        have hi' : i < (cc n nv dv a).length := by simpa using hi
        simp [List.getElem?_eq_getElem hi']
    · obtain ⟨o', ho', hg, hd, hop⟩ := hO.o28
      obtain rfl : o = o' := by rw [ho] at ho'; exact Option.some.inj ho'
      have hrun : (execOp a.eval o).run Yba.prog w = .ok (.value (.pointer (some ⟨w.heap.size, 0, none⟩))) (w.alloc (.cells #[.pointer none] 30)) := by
        unfold execOp
        simp only [hop, Sem.run_bind, runAlloc, Result.andThen_ok, Sem.run_pure]
      refine wpOp_val ho hg hrun (hin (by decide) _ _ ?_)
      rw [hd]
      refine ((h.put hi (by decide) (by decide) _).alloc _).mark 28 (fun r hr e => absurd e (tbl_ne r hr).2.2.2.2.1) (fun e => absurd e (by decide)) (fun e => absurd e (by decide)) (fun e => absurd e (by decide)) (fun e => absurd e (by decide)) (fun _ => ⟨w.heap.size, ?_, h.bel.size, ?_⟩)
      · rw [put_eval (hlt 9 (by decide))]
      · exact World.rowIs_alloc w #[.pointer none] 30 _ (fun i hi => by simp at hi; simp [hi])
    · obtain ⟨o', ho', hg, hd, hop, hdp⟩ := hO.o29
      obtain rfl : o = o' := by rw [ho] at ho'; exact Option.some.inj ho'
      have D := deps_spec hdp hall
      obtain ⟨bh, bo, br, bq, bf, ba, bp, bc, bv, e71, hc, hfz, e9, hF⟩ := h.fin D
      have hrun : (execOp a.eval o).run Yba.prog w = .ok .skip (w.setCell ⟨bv, 0, none⟩ (.pointer (some ⟨bc, 0, none⟩))) := by
        unfold execOp
        simp only [hop, e71, e9, Sem.run_bind, runStore bv bc w hc hfz, Result.andThen_ok, Sem.run_pure]
      refine wpOp_skip ho hg hrun ?_
      rw [hd]
      refine .inr ⟨fun j hj => ?_, bh, bo, br, bq, bf, ba, bp, bc, bv, hF⟩
      by_cases e : j = 29
      · simp [e]
      · simp only [if_neg e]
        exact D j (List.mem_range.2 (by omega))
  · intro f a w hI hf
    rcases hI with ⟨h29, _⟩ | ⟨_, bh, bo, br, bq, bf, ba, bp, bc, bv, hF⟩
    · have := hf 29 (by rw [hO.sz]; omega)
      rw [h29] at this
      cases this
    · exact hQ a w bh bo br bq bf ba bp bc bv hF
  · have no : ∀ j ∈ RR, listed.getD j false = true → False := fun j hj ht => by rw [hl2 j hj] at ht; cases ht
    have nt : ∀ r ∈ tbl m n, r.i ∈ RR := by
      intro r hr
      simp only [tbl, List.mem_cons, List.not_mem_nil, or_false] at hr
      rcases hr with rfl | rfl | rfl | rfl | rfl | rfl | rfl <;> simp [RR]
    exact ⟨hl1, Fr.refl _ _, Below.refl _ _, fun r hr hf => (no _ (nt r hr) hf).elim, fun r hr _ _ _ hf _ => (no _ (nt r hr) hf).elim, fun hf => (no 9 (by decide) hf).elim, fun hf => (no 10 (by decide) hf).elim, fun hf => (no 26 (by decide) hf).elim, fun hf => (no 27 (by decide) hf).elim, fun hf => (no 28 (by decide) hf).elim⟩
end
end Go.Proofs.Ybulkcmrw.W
