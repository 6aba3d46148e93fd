/-
  The arcs that newClearing lays, one debt at a time. The first half: no Go in sight.
-/
import Derived.Test.YbulkcmrwPair
import Derived.Test.YbulkcmrwBest
namespace Go.Proofs.Ybulkcmrw.W
open Go Go.RowKit Go.Proofs.Ybulkcmrw.Mem Go.Proofs.Ybulkcmrw.G

theorem put_length (rows : List (List Nat)) (y z : Nat) : (put rows y z).length = rows.length := by simp [put]
theorem put_mem {rows : List (List Nat)} {y z x i : Nat} (hy : y < rows.length) : i ∈ (put rows y z).getD x [] ↔ i ∈ rows.getD x [] ∨ (x = y ∧ i = z) := by
  unfold put
  by_cases e : x = y
  · subst e
    rw [List.getD_eq_getElem?_getD, List.getElem?_set_self hy]
    simp
  · rw [List.getD_eq_getElem?_getD, List.getElem?_set_ne (Ne.symm e), ← List.getD_eq_getElem?_getD]
    simp [e]
theorem put_small {rows : List (List Nat)} {y z b : Nat} (h : ∀ r ∈ rows, r.length ≤ b) : ∀ r ∈ put rows y z, r.length ≤ b + 1 := by
  intro r hr
  unfold put at hr
  rcases List.mem_or_eq_of_mem_set hr with h2 | h2
  · have := h r h2; omega
  · subst h2
    rw [List.length_append]
    by_cases hul : y < rows.length
    · have hg : rows.getD y [] ∈ rows := by
        rw [List.getD_eq_getElem?_getD, List.getElem?_eq_getElem hul]
        exact List.getElem_mem _
      have := h _ hg
      simp at this ⊢
      omega
    · have e : rows.getD y [] = [] := by rw [List.getD_eq_getElem?_getD, List.getElem?_eq_none (by omega)]; rfl
      rw [e]; simp

/-- The rows hold the arcs S, each at the node that it leaves. -/
structure Ar (N : Nat) (S : Nat → Prop) (hf : Nat → Nat) (rows : List (List Nat)) : Prop where
  len : rows.length = N
  mem : ∀ x, x < N → ∀ i, i ∈ rows.getD x [] ↔ S i ∧ hf (flip i) = x

theorem Ar.congr {N : Nat} {S S' : Nat → Prop} {hf : Nat → Nat} {rows : List (List Nat)} (h : Ar N S hf rows) (e : ∀ i, S i ↔ S' i) : Ar N S' hf rows :=
  ⟨h.len, fun x hx i => by rw [h.mem x hx i, e i]⟩

theorem updN_same (f : Nat → Nat) (i x : Nat) : updN f i x i = x := by simp [updN]
theorem updN_ne (f : Nat → Nat) {i j : Nat} (x : Nat) (h : j ≠ i) : updN f i x j = f j := by simp [updN, h]

theorem Ar.pair {N : Nat} {S : Nat → Prop} {hf : Nat → Nat} {rows : List (List Nat)} (h : Ar N S hf rows) {q y z : Nat} (h0 : ¬ S (2 * q)) (h1 : ¬ S (2 * q + 1)) (hy : y < N) (hz : z < N) :
    Ar N (fun i => S i ∨ i = 2 * q ∨ i = 2 * q + 1) (updN (updN hf (2 * q) z) (2 * q + 1) y) (put (put rows y (2 * q)) z (2 * q + 1)) := by
  refine ⟨by rw [put_length, put_length, h.len], fun x hx i => ?_⟩
  rw [put_mem (by rw [put_length, h.len]; exact hz), put_mem (by rw [h.len]; exact hy), h.mem x hx i]
  by_cases e0 : i = 2 * q
  · subst e0
    rw [flip_even, updN_same]
    constructor
    · rintro ((⟨h2, _⟩ | ⟨h2, _⟩) | ⟨_, h2⟩)
      · exact absurd h2 h0
      · exact ⟨.inr (.inl rfl), h2.symm⟩
      · omega
    · rintro ⟨_, h2⟩
      exact .inl (.inr ⟨h2.symm, rfl⟩)
  · by_cases e1 : i = 2 * q + 1
    · subst e1
      rw [flip_odd, updN_ne _ _ (by omega), updN_same]
      constructor
      · rintro ((⟨h2, _⟩ | ⟨_, h2⟩) | ⟨h2, _⟩)
        · exact absurd h2 h1
        · omega
        · exact ⟨.inr (.inr rfl), h2.symm⟩
      · rintro ⟨_, h2⟩
        exact .inr ⟨h2.symm, rfl⟩
    · have f0 : flip i ≠ 2 * q := by unfold flip; split <;> omega
      have f1 : flip i ≠ 2 * q + 1 := by unfold flip; split <;> omega
      rw [updN_ne _ _ f1, updN_ne _ _ f0]
      simp [e0, e1]

/-- The arcs of the first k debts. -/
def Done (m k i : Nat) : Prop := ∃ j, j < k ∧ (i = 2 * j ∨ i = 2 * j + 1 ∨ i = 2 * m + 2 * j ∨ i = 2 * m + 2 * j + 1 ∨ i = 4 * m + 2 * j ∨ i = 4 * m + 2 * j + 1)

structure Arcs (n m : Nat) (u v : Nat → Nat) (a : Nat → Int) (k : Nat) (hf : Nat → Nat) (rf : Nat → Int) (rows : List (List Nat)) : Prop where
  hd : ∀ j, j < k → hf (2 * j) = v j ∧ hf (2 * j + 1) = u j ∧ hf (2 * m + 2 * j) = v j ∧ hf (2 * m + 2 * j + 1) = n ∧ hf (4 * m + 2 * j) = n + 1 ∧ hf (4 * m + 2 * j + 1) = u j
  rm : ∀ j, j < k → rf (2 * j) = 0 ∧ rf (2 * j + 1) = a j ∧ rf (2 * m + 2 * j) = a j ∧ rf (2 * m + 2 * j + 1) = 0 ∧ rf (4 * m + 2 * j) = a j ∧ rf (4 * m + 2 * j + 1) = 0
  ar : Ar (n + 2) (Done m k) hf rows
  sml : ∀ r ∈ rows, r.length ≤ 6 * k

theorem Arcs.zero (n m : Nat) (u v : Nat → Nat) (a : Nat → Int) (hf : Nat → Nat) (rf : Nat → Int) : Arcs n m u v a 0 hf rf (List.replicate (n + 2) []) := by
  refine ⟨fun j hj => by omega, fun j hj => by omega, ⟨by simp, fun x hx i => ?_⟩, fun r hr => ?_⟩
  · have e : (List.replicate (n + 2) ([] : List Nat)).getD x [] = [] := by rw [List.getD_eq_getElem?_getD]; simp [hx]
    rw [e]
    simp only [List.not_mem_nil, false_iff, not_and]
    rintro ⟨j, hj, _⟩
    omega
  · rw [(List.mem_replicate.1 hr).2]; simp

theorem upd_same (f : Nat → Int) (i : Nat) (x : Int) : upd f i x i = x := by simp [upd]
theorem upd_ne (f : Nat → Int) {i j : Nat} (x : Int) (h : j ≠ i) : upd f i x j = f j := by simp [upd, h]

section
variable {n m : Nat} {u v : Nat → Nat} {a : Nat → Int} {k : Nat} {hf : Nat → Nat} {rf : Nat → Int} {rows : List (List Nat)}

set_option maxHeartbeats 4000000 in
theorem Arcs.step (h : Arcs n m u v a k hf rf rows) (hk : k < m) (hu : u k < n) (hv : v k < n) :
    Arcs n m u v a (k + 1) (updN (updN (updN (updN (updN (updN hf (2 * k) (v k)) (2 * k + 1) (u k)) (2 * m + 2 * k) (v k)) (2 * m + 2 * k + 1) n) (4 * m + 2 * k) (n + 1)) (4 * m + 2 * k + 1) (u k))
      (upd (upd (upd (upd (upd (upd rf (2 * k) 0) (2 * k + 1) (a k)) (2 * m + 2 * k) (a k)) (2 * m + 2 * k + 1) 0) (4 * m + 2 * k) (a k)) (4 * m + 2 * k + 1) 0)
      (put (put (put (put (put (put rows (u k) (2 * k)) (v k) (2 * k + 1)) n (2 * m + 2 * k)) (v k) (2 * m + 2 * k + 1)) (u k) (4 * m + 2 * k)) (n + 1) (4 * m + 2 * k + 1)) := by
  refine ⟨fun j hj => ?_, fun j hj => ?_, ?_, ?_⟩
  · by_cases e : j = k
    · subst e
      refine ⟨?_, ?_, ?_, ?_, ?_, ?_⟩ <;> (unfold updN; repeat' split) <;> omega
    · obtain ⟨h1, h2, h3, h4, h5, h6⟩ := h.hd j (by omega)
      refine ⟨?_, ?_, ?_, ?_, ?_, ?_⟩ <;> (unfold updN; repeat' split) <;> omega
  · by_cases e : j = k
    · subst e
      refine ⟨?_, ?_, ?_, ?_, ?_, ?_⟩ <;> (unfold upd; repeat' split) <;> first | omega | rfl
    · obtain ⟨h1, h2, h3, h4, h5, h6⟩ := h.rm j (by omega)
      refine ⟨?_, ?_, ?_, ?_, ?_, ?_⟩ <;> (unfold upd; repeat' split) <;> first | omega | assumption
  · have s1 := h.ar.pair (q := k) (y := u k) (z := v k) (by rintro ⟨j, hj, hc⟩; omega) (by rintro ⟨j, hj, hc⟩; omega) (by omega) (by omega)
    have s2 := s1.pair (q := m + k) (y := n) (z := v k) (by rintro (⟨j, hj, hc⟩ | hc) <;> omega) (by rintro (⟨j, hj, hc⟩ | hc) <;> omega) (by omega) (by omega)
    have s3 := s2.pair (q := 2 * m + k) (y := u k) (z := n + 1) (by rintro ((⟨j, hj, hc⟩ | hc) | hc) <;> omega) (by rintro ((⟨j, hj, hc⟩ | hc) | hc) <;> omega) (by omega) (by omega)
    rw [show 2 * (m + k) = 2 * m + 2 * k from by omega, show 2 * (2 * m + k) = 4 * m + 2 * k from by omega] at s3
    refine s3.congr (fun i => ?_)
    constructor
    · rintro (((⟨j, hj, hc⟩ | hc) | hc) | hc)
      · exact ⟨j, by omega, hc⟩
      · exact ⟨k, by omega, by omega⟩
      · exact ⟨k, by omega, by omega⟩
      · exact ⟨k, by omega, by omega⟩
    · rintro ⟨j, hj, hc⟩
      by_cases e : j = k
      · subst e
        rcases hc with h1 | h1 | h1 | h1 | h1 | h1
        · exact .inl (.inl (.inr (.inl h1)))
        · exact .inl (.inl (.inr (.inr h1)))
        · exact .inl (.inr (.inl h1))
        · exact .inl (.inr (.inr h1))
        · exact .inr (.inl h1)
        · exact .inr (.inr h1)
      · exact .inl (.inl (.inl ⟨j, by omega, hc⟩))
  · intro r hr
    have := put_small (put_small (put_small (put_small (put_small (put_small h.sml))))) r hr
    omega

theorem done_all {i : Nat} : Done m m i ↔ i < 6 * m := by
  constructor
  · rintro ⟨j, hj, hc⟩; omega
  · intro h
    exact six h

/-- The graph. -/
def gr (n m : Nat) (hf : Nat → Nat) (rf : Nat → Int) (rows : List (List Nat)) : Gr := { N := n + 2, m := m, src := n, hd := hf, rm := rf, adj := fun x => rows.getD x [] }

theorem Arcs.laid (h : Arcs n m u v a m hf rf rows) (hu : ∀ k, k < m → u k < n) (hv : ∀ k, k < m → v k < n) : Laid (gr n m hf rf rows) n m u v a :=
  ⟨rfl, rfl, rfl, hu, hv, h.hd, h.rm, fun x hx i => by
    show i ∈ rows.getD x [] ↔ _
    rw [h.ar.mem x hx i, done_all]
    rfl⟩
end
end Go.Proofs.Ybulkcmrw.W
