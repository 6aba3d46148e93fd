/-
  The distances on the graph that newClearing lays. No Go in sight.
-/
import Derived.Test.YbulkcmrwSmall
namespace Go.Proofs.Ybulkcmrw.W
open Go.Proofs.Ybulkcmrw.G

/-- The graph over m debts, debt k owed by u k to v k, n members. -/
structure Laid (G : Gr) (n m : Nat) (u v : Nat → Nat) (a : Nat → Int) : Prop where
  N : G.N = n + 2
  gm : G.m = m
  src : G.src = n
  ul : ∀ k, k < m → u k < n
  vl : ∀ k, k < m → v k < n
  hd : ∀ k, k < m → G.hd (2 * k) = v k ∧ G.hd (2 * k + 1) = u k ∧ G.hd (2 * m + 2 * k) = v k ∧ G.hd (2 * m + 2 * k + 1) = n ∧ G.hd (4 * m + 2 * k) = n + 1 ∧ G.hd (4 * m + 2 * k + 1) = u k
  rm : ∀ k, k < m → G.rm (2 * k) = 0 ∧ G.rm (2 * k + 1) = a k ∧ G.rm (2 * m + 2 * k) = a k ∧ G.rm (2 * m + 2 * k + 1) = 0 ∧ G.rm (4 * m + 2 * k) = a k ∧ G.rm (4 * m + 2 * k + 1) = 0
  adj : ∀ x, x < n + 2 → ∀ i, i ∈ G.adj x ↔ i < 6 * m ∧ G.hd (flip i) = x

/-- The arcs with room, one debt at a time. -/
def Way (n m : Nat) (u v : Nat → Nat) (a : Nat → Int) (x y : Nat) (c : Int) : Prop :=
  ∃ k, k < m ∧ 0 < a k ∧ ((x = v k ∧ y = u k ∧ c = 1) ∨ (x = n ∧ y = v k ∧ c = 0) ∨ (x = u k ∧ y = n + 1 ∧ c = 0))

theorem six {m i : Nat} (h : i < 6 * m) : ∃ k, k < m ∧ (i = 2 * k ∨ i = 2 * k + 1 ∨ i = 2 * m + 2 * k ∨ i = 2 * m + 2 * k + 1 ∨ i = 4 * m + 2 * k ∨ i = 4 * m + 2 * k + 1) := by
  by_cases h1 : i < 2 * m
  · exact ⟨i / 2, by omega, by omega⟩
  · by_cases h2 : i < 4 * m
    · exact ⟨(i - 2 * m) / 2, by omega, by omega⟩
    · exact ⟨(i - 4 * m) / 2, by omega, by omega⟩

theorem flip_even (k : Nat) : flip (2 * k) = 2 * k + 1 := by unfold flip; rw [if_pos (by omega)]
theorem flip_odd (k : Nat) : flip (2 * k + 1) = 2 * k := by unfold flip; rw [if_neg (by omega)]; omega

section
variable {G : Gr} {n m : Nat} {u v : Nat → Nat} {a : Nat → Int}

theorem Laid.edge (h : Laid G n m u v a) {x y : Nat} {c : Int} (hx : x < n + 2) : Go.Proofs.Ybulkcmrw.G.Edge G x y c ↔ Way n m u v a x y c := by
  have gm := h.gm
  constructor
  · rintro ⟨i, h1, h2, h3, h4⟩
    obtain ⟨hi, hf⟩ := (h.adj x hx i).1 h1
    obtain ⟨k, hk, hc⟩ := six hi
    obtain ⟨d0, d1, d2, d3, d4, d5⟩ := h.hd k hk
    obtain ⟨r0, r1, r2, r3, r4, r5⟩ := h.rm k hk
    rw [gm] at h4
    rcases hc with rfl | rfl | rfl | rfl | rfl | rfl
    · omega
    · rw [flip_odd, d0] at hf
      refine ⟨k, hk, by omega, .inl ⟨hf.symm, by omega, ?_⟩⟩
      rw [← h4, cost, if_neg (by omega), if_neg (by omega)]
    · rw [show 2 * m + 2 * k = 2 * (m + k) from by omega, flip_even, show 2 * (m + k) + 1 = 2 * m + 2 * k + 1 from by omega, d3] at hf
      refine ⟨k, hk, by omega, .inr (.inl ⟨hf.symm, by omega, ?_⟩)⟩
      rw [← h4, cost, if_pos (by omega)]
    · omega
    · rw [show 4 * m + 2 * k = 2 * (2 * m + k) from by omega, flip_even, show 2 * (2 * m + k) + 1 = 4 * m + 2 * k + 1 from by omega, d5] at hf
      refine ⟨k, hk, by omega, .inr (.inr ⟨hf.symm, by omega, ?_⟩)⟩
      rw [← h4, cost, if_pos (by omega)]
    · omega
  · rintro ⟨k, hk, ha, hc⟩
    obtain ⟨d0, d1, d2, d3, d4, d5⟩ := h.hd k hk
    obtain ⟨r0, r1, r2, r3, r4, r5⟩ := h.rm k hk
    rcases hc with ⟨rfl, rfl, rfl⟩ | ⟨rfl, rfl, rfl⟩ | ⟨rfl, rfl, rfl⟩
    · refine ⟨2 * k + 1, (h.adj _ hx _).2 ⟨by omega, by rw [flip_odd, d0]⟩, by omega, d1, ?_⟩
      rw [gm, cost, if_neg (by omega), if_neg (by omega)]
    · refine ⟨2 * m + 2 * k, (h.adj _ hx _).2 ⟨by omega, ?_⟩, by omega, d2, ?_⟩
      · rw [show 2 * m + 2 * k = 2 * (m + k) from by omega, flip_even, show 2 * (m + k) + 1 = 2 * m + 2 * k + 1 from by omega, d3]
      · rw [gm, cost, if_pos (by omega)]
    · refine ⟨4 * m + 2 * k, (h.adj _ hx _).2 ⟨by omega, ?_⟩, by omega, d4, ?_⟩
      · rw [show 4 * m + 2 * k = 2 * (2 * m + k) from by omega, flip_even, show 2 * (2 * m + k) + 1 = 4 * m + 2 * k + 1 from by omega, d5]
      · rw [gm, cost, if_pos (by omega)]

theorem Laid.hdlt (h : Laid G n m u v a) {i : Nat} (hi : i < 6 * m) : G.hd i < G.N := by
  obtain ⟨k, hk, hc⟩ := six hi
  obtain ⟨d0, d1, d2, d3, d4, d5⟩ := h.hd k hk
  have hu := h.ul k hk
  have hv := h.vl k hk
  rw [h.N]
  rcases hc with rfl | rfl | rfl | rfl | rfl | rfl <;> omega

theorem Laid.ok (h : Laid G n m u v a) : Ok G := by
  have gm := h.gm
  refine ⟨by rw [h.src, h.N]; omega, fun x hx i hi => ?_, fun i hi => ?_, fun y w hy he => ?_⟩
  · rw [h.N] at hx
    have h1 := ((h.adj x hx i).1 hi).1
    exact ⟨by rw [gm]; exact h1, h.hdlt h1⟩
  · rw [gm]
    by_cases h1 : 2 * m ≤ i
    · rw [cost, if_pos h1]; omega
    · by_cases h2 : i % 2 = 0
      · exfalso
        have h3 := (h.rm (i / 2) (by omega)).1
        rw [show 2 * (i / 2) = i from by omega] at h3
        omega
      · rw [cost, if_neg h1, if_neg h2]; omega
  · rw [h.N] at hy
    obtain ⟨k, hk, ha, hc⟩ := (h.edge hy).1 he
    rw [h.src]
    refine (h.edge (by omega)).2 ⟨k, hk, ha, .inr (.inl ⟨rfl, ?_, rfl⟩)⟩
    rcases hc with ⟨h1, _, _⟩ | ⟨_, _, h3⟩ | ⟨_, _, h3⟩
    · exact h1
    · omega
    · omega

def Cred (m : Nat) (v : Nat → Nat) (a : Nat → Int) (x : Nat) : Prop := ∃ k, k < m ∧ 0 < a k ∧ v k = x
def Debr (m : Nat) (u : Nat → Nat) (a : Nat → Int) (x : Nat) : Prop := ∃ k, k < m ∧ 0 < a k ∧ u k = x

open Classical in
/-- A member's distance. -/
noncomputable def Dm (m : Nat) (u v : Nat → Nat) (a : Nat → Int) (x : Nat) : Int := if Cred m v a x then 0 else if Debr m u a x then 1 else -1
open Classical in
/-- The sink's. -/
noncomputable def Dz (m : Nat) (u v : Nat → Nat) (a : Nat → Int) : Int := if ∃ k, k < m ∧ 0 < a k ∧ Cred m v a (u k) then 0 else if ∃ k, k < m ∧ 0 < a k then 1 else -1
open Classical in
noncomputable def Dd (n m : Nat) (u v : Nat → Nat) (a : Nat → Int) (x : Nat) : Int := if x = n then 0 else if x = n + 1 then Dz m u v a else Dm m u v a x
open Classical in
noncomputable def Lv (n m : Nat) (v : Nat → Nat) (a : Nat → Int) (x : Nat) : Nat := if x = n then 0 else if x = n + 1 then 3 else if Cred m v a x then 1 else 2

theorem Dm_cred {x : Nat} (h : Cred m v a x) : Dm m u v a x = 0 := by simp [Dm, h]
theorem Dm_debr {x : Nat} (h : Debr m u a x) : 0 ≤ Dm m u v a x ∧ Dm m u v a x ≤ 1 := by
  by_cases hc : Cred m v a x
  · rw [Dm_cred hc]; omega
  · have e : Dm m u v a x = 1 := by unfold Dm; rw [if_neg hc, if_pos h]
    rw [e]; omega

theorem Laid.best (h : Laid G n m u v a) : Best G (Dd n m u v a) (Lv n m v a) := by
  have mem : ∀ x, x < n → Dd n m u v a x = Dm m u v a x := fun x hx => by simp [Dd, show x ≠ n from by omega, show x ≠ n + 1 from by omega]
  have snk : Dd n m u v a (n + 1) = Dz m u v a := by simp [Dd]
  have sr : Dd n m u v a n = 0 := by simp [Dd]
  refine ⟨by rw [h.src]; exact sr, fun x => ?_, fun x w c hx he hd => ?_, fun x hx hd => ?_, fun x hx hd => ?_, by rw [h.src]; simp [Lv]⟩
  · unfold Dd Dz Dm
    repeat' split
    all_goals omega
  · rw [h.N] at hx
    obtain ⟨k, hk, ha, hc⟩ := (h.edge hx).1 he
    have hu := h.ul k hk
    have hv := h.vl k hk
    rcases hc with ⟨rfl, rfl, rfl⟩ | ⟨rfl, rfl, rfl⟩ | ⟨rfl, rfl, rfl⟩
    · rw [mem _ hu, mem _ hv, Dm_cred ⟨k, hk, ha, rfl⟩]
      have := Dm_debr (v := v) (x := u k) ⟨k, hk, ha, rfl⟩
      omega
    · rw [mem _ hv, sr, Dm_cred ⟨k, hk, ha, rfl⟩]; omega
    · rw [mem _ hu, snk]
      by_cases hcr : Cred m v a (u k)
      · have e : Dz m u v a = 0 := by unfold Dz; rw [if_pos ⟨k, hk, ha, hcr⟩]
        rw [e, Dm_cred hcr]; omega
      · have e : Dm m u v a (u k) = 1 := by unfold Dm; rw [if_neg hcr, if_pos ⟨k, hk, ha, rfl⟩]
        rw [e]
        by_cases hz : ∃ k, k < m ∧ 0 < a k ∧ Cred m v a (u k)
        · have e2 : Dz m u v a = 0 := by unfold Dz; rw [if_pos hz]
          rw [e2]; omega
        · have e2 : Dz m u v a = 1 := by unfold Dz; rw [if_neg hz, if_pos ⟨k, hk, ha⟩]
          rw [e2]; omega
  · rw [h.N] at hx
    rw [h.src]
    by_cases e1 : x = n
    · exact .inl e1
    · right
      by_cases e2 : x = n + 1
      · subst e2
        rw [snk] at hd ⊢
        unfold Dz at hd
        by_cases c1 : ∃ k, k < m ∧ 0 < a k ∧ Cred m v a (u k)
        · obtain ⟨k, hk, ha, hcr⟩ := c1
          have hu := h.ul k hk
          refine ⟨u k, 0, by rw [h.N]; omega, (h.edge (by omega)).2 ⟨k, hk, ha, .inr (.inr ⟨rfl, rfl, rfl⟩)⟩, ?_, ?_, ?_⟩
          · rw [mem _ hu, Dm_cred hcr]; omega
          · rw [mem _ hu, Dm_cred hcr]; unfold Dz; rw [if_pos ⟨k, hk, ha, hcr⟩]; rfl
          · simp [Lv, show u k ≠ n from by omega, show u k ≠ n + 1 from by omega, hcr]
        · rw [if_neg c1] at hd
          by_cases c2 : ∃ k, k < m ∧ 0 < a k
          · obtain ⟨k, hk, ha⟩ := c2
            have hu := h.ul k hk
            have hncr : ¬ Cred m v a (u k) := fun hcr => c1 ⟨k, hk, ha, hcr⟩
            have e : Dm m u v a (u k) = 1 := by unfold Dm; rw [if_neg hncr, if_pos ⟨k, hk, ha, rfl⟩]
            refine ⟨u k, 0, by rw [h.N]; omega, (h.edge (by omega)).2 ⟨k, hk, ha, .inr (.inr ⟨rfl, rfl, rfl⟩)⟩, ?_, ?_, ?_⟩
            · rw [mem _ hu, e]; omega
            · rw [mem _ hu, e]; unfold Dz; rw [if_neg c1, if_pos ⟨k, hk, ha⟩]; rfl
            · simp [Lv, show u k ≠ n from by omega, show u k ≠ n + 1 from by omega, hncr]
          · rw [if_neg c2] at hd; omega
      · have hxn : x < n := by omega
        rw [mem _ hxn] at hd ⊢
        unfold Dm at hd
        by_cases c1 : Cred m v a x
        · obtain ⟨k, hk, ha, rfl⟩ := c1
          refine ⟨n, 0, by rw [h.N]; omega, (h.edge (by omega)).2 ⟨k, hk, ha, .inr (.inl ⟨rfl, rfl, rfl⟩)⟩, by rw [sr]; omega, ?_, ?_⟩
          · rw [sr, Dm_cred ⟨k, hk, ha, rfl⟩]; rfl
          · have hc : Cred m v a (v k) := ⟨k, hk, ha, rfl⟩
            simp [Lv, e1, e2, hc]
        · rw [if_neg c1] at hd
          by_cases c2 : Debr m u a x
          · have c2' := c2
            obtain ⟨k, hk, ha, rfl⟩ := c2
            have hv := h.vl k hk
            have hc : Cred m v a (v k) := ⟨k, hk, ha, rfl⟩
            refine ⟨v k, 1, by rw [h.N]; omega, (h.edge (by omega)).2 ⟨k, hk, ha, .inl ⟨rfl, rfl, rfl⟩⟩, ?_, ?_, ?_⟩
            · rw [mem _ hv, Dm_cred hc]; omega
            · rw [mem _ hv, Dm_cred hc]; unfold Dm; rw [if_neg c1, if_pos c2']; rfl
            · simp [Lv, e1, e2, c1, hc, show v k ≠ n from by omega, show v k ≠ n + 1 from by omega]
          · rw [if_neg c2] at hd; omega
  · have hk3 : Lv n m v a x ≤ 3 := by unfold Lv; (repeat' split) <;> omega
    rw [h.N] at hx ⊢
    by_cases e1 : x = n
    · simp [Lv, e1]
    · have hex : ∃ k, k < m ∧ 0 < a k := by
        by_cases e2 : x = n + 1
        · subst e2
          rw [snk] at hd
          unfold Dz at hd
          by_cases c1 : ∃ k, k < m ∧ 0 < a k ∧ Cred m v a (u k)
          · obtain ⟨k, hk, ha, _⟩ := c1; exact ⟨k, hk, ha⟩
          · rw [if_neg c1] at hd
            by_cases c2 : ∃ k, k < m ∧ 0 < a k
            · exact c2
            · rw [if_neg c2] at hd; omega
        · rw [mem x (by omega)] at hd
          unfold Dm at hd
          by_cases c1 : Cred m v a x
          · obtain ⟨k, hk, ha, _⟩ := c1; exact ⟨k, hk, ha⟩
          · rw [if_neg c1] at hd
            by_cases c2 : Debr m u a x
            · obtain ⟨k, hk, ha, _⟩ := c2; exact ⟨k, hk, ha⟩
            · rw [if_neg c2] at hd; omega
      obtain ⟨k, hk, _⟩ := hex
      have := h.ul k hk
      omega
end
end Go.Proofs.Ybulkcmrw.W
