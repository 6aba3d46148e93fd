/-
  The small functions: weight, cost, reduced, slices.Equal.
-/
import Derived.Test.YbulkcmrwProg
import Derived.Test.YbulkcmrwMem
import Derived.Test.YbulkcmrwGraph
import Derived.Lib.Walk
import Derived.Deep.Draws
import Derived.Deep.LoopGhost
import Derived.Deep.QuietTactic
import Derived.BigQuiet
import Derived.IntWalk
import Derived.RegionTactic
import Derived.BigRegion
import Derived.Deep.RegionLaw
import Derived.Deep.RegionWith
import Derived.Deep.DeepCutAuto
import Derived.Deep.CutBlock
import Derived.Laws.BitsAllLaws
namespace Go.Proofs.Ybulkcmrw.W
open Go Go.RowKit Go.Proofs.Ybulkcmrw.Mem Go.Proofs.Ybulkcmrw.G

/-- The graph, as it lies. -/
structure GAt (w : World) (bc bh br bp ba : Nat) (G : Gr) : Prop where
  head : w.cell? ⟨bc, 0, none⟩ = some (.slice (some ⟨bh, 0, none⟩) (6 * G.m) (6 * G.m))
  room : w.cell? ⟨bc, 2, none⟩ = some (.slice (some ⟨br, 0, none⟩) (6 * G.m) (6 * G.m))
  debts : ∃ da dc, w.cell? ⟨bc, 4, none⟩ = some (.slice da G.m dc)
  src : w.cell? ⟨bc, 6, none⟩ = some (.int .i32 (G.src : Nat))
  arcs : w.cell? ⟨bc, 9, none⟩ = some (.slice (some ⟨ba, 0, none⟩) G.N G.N)
  price : w.cell? ⟨bc, 10, none⟩ = some (.slice (some ⟨bp, 0, none⟩) G.N G.N)
  hd : ∀ i, i < 6 * G.m → w.cell? ⟨bh, i, none⟩ = some (.int .i32 (G.hd i : Nat))
  rm : ∀ i, i < 6 * G.m → w.cell? ⟨br, i, none⟩ = some (.int .i64 (G.rm i))
  pr : ∀ v, v < G.N → w.cell? ⟨bp, v, none⟩ = some (.int .i64 0)
  adj : ∀ v, v < G.N → ∃ va vc, w.cell? ⟨ba, v, none⟩ = some (.slice va (G.adj v).length vc) ∧ (0 < (G.adj v).length → ∃ g, va = some ⟨g, 0, none⟩ ∧ ∀ j (hj : j < (G.adj v).length), w.cell? ⟨g, j, none⟩ = some (.int .i32 ((G.adj v)[j] : Nat)))
  hlt : ∀ i, i < 6 * G.m → G.hd i < G.N
  mle : G.m ≤ 1024
  nle : G.N ≤ 4096
  adl : ∀ v, v < G.N → (G.adj v).length ≤ 100000

theorem GAt.below {w w' : World} {bc bh br bp ba : Nat} {G : Gr} (h : GAt w bc bh br bp ba G) (hb : Below w.heap.size w w') : GAt w' bc bh br bp ba G := by
  have key : ∀ {p : Addr} {v : Value}, w.cell? p = some v → w'.cell? p = some v := fun hc => (hb.cell (World.block_lt_of_cell? w _ hc)).trans hc
  refine ⟨key h.head, key h.room, ?_, key h.src, key h.arcs, key h.price, fun i hi => key (h.hd i hi), fun i hi => key (h.rm i hi), fun v hv => key (h.pr v hv), fun v hv => ?_, h.hlt, h.mle, h.nle, h.adl⟩
  · obtain ⟨da, dc, hd⟩ := h.debts
    exact ⟨da, dc, key hd⟩
  · obtain ⟨va, vc, h1, h2⟩ := h.adj v hv
    refine ⟨va, vc, key h1, fun hp => ?_⟩
    obtain ⟨g, h3, h4⟩ := h2 hp
    exact ⟨g, h3, fun j hj => key (h4 j hj)⟩
theorem GAt.drewN {w : World} {bc bh br bp ba : Nat} {G : Gr} (h : GAt w bc bh br bp ba G) (m : Nat) : GAt (w.drewN m) bc bh br bp ba G := ⟨h.head, h.room, h.debts, h.src, h.arcs, h.price, h.hd, h.rm, h.pr, h.adj, h.hlt, h.mle, h.nle, h.adl⟩
theorem drewN_add (w : World) (a b : Nat) : (w.drewN a).drewN b = w.drewN (a + b) := by simp [World.drewN, Nat.add_assoc]

set_option maxHeartbeats 2000000 in
set_option maxRecDepth 100000 in
theorem weight (i m : Nat) (hm : m ≤ 1024) (hi : i < 6 * m) (w : World) :
    Calls Yba.prog 9 #[.int .i32 (i : Nat), .int .i64 (m : Nat)] w fun e w' => e = .returned (.int .i64 (cost m i)) ∧ w' = w := by
  by_cases h1 : 2 * m ≤ i
  · have h1' : (i : Int) ≥ 2 * (m : Int) := by omega
    have hc : cost m i = 0 := by simp [cost, h1]
    go_enter Yba.func9, Yba.ntmps9
    go_wp2
    go_ret
    exact ⟨by first | rfl | (rw [hc]; rfl), rfl⟩
  · have h1' : ¬ (i : Int) ≥ 2 * (m : Int) := by omega
    by_cases h2 : i % 2 = 0
    · have h2' : ((i : Int) % 2 == 0) = true := by simp; omega
      have hc : cost m i = -1 := by simp [cost, h1, h2]
      go_enter Yba.func9, Yba.ntmps9
      go_wp2
      go_ret
      exact ⟨by first | rfl | (rw [hc]; rfl), rfl⟩
    · have h2' : ((i : Int) % 2 == 0) = false := by simp; omega
      have hc : cost m i = 1 := by simp [cost, h1, h2]
      go_enter Yba.func9, Yba.ntmps9
      go_wp2
      go_ret
      exact ⟨by first | rfl | (rw [hc]; rfl), rfl⟩

set_option maxHeartbeats 2000000 in
set_option maxRecDepth 100000 in
theorem costAt (bc bh br bp ba : Nat) (G : Gr) (i : Nat) (w : World) (hG : GAt w bc bh br bp ba G) (hi : i < 6 * G.m) :
    Calls Yba.prog 30 #[.pointer (some ⟨bc, 0, none⟩), .int .i32 (i : Nat)] w fun e w' => e = .returned (.int .i64 (cost G.m i)) ∧ w' = w := by
  obtain ⟨da, dc, hd⟩ := hG.debts
  have hm := hG.mle
  obtain ⟨m, hme⟩ : ∃ m, G.m = m := ⟨_, rfl⟩
  rw [hme] at hd hm hi ⊢
  clear hG hme
  by_cases h1 : 2 * m ≤ i
  · have h1' : (i : Int) ≥ 2 * (m : Int) := by omega
    have hc : cost m i = 0 := by simp [cost, h1]
    go_enter Yba.func30, Yba.ntmps30
    go_wp2
    go_ret
    exact ⟨by first | rfl | (rw [hc]; rfl), rfl⟩
  · have h1' : ¬ (i : Int) ≥ 2 * (m : Int) := by omega
    by_cases h2 : i % 2 = 0
    · have h2' : ((i : Int) % 2 == 0) = true := by simp; omega
      have hc : cost m i = -1 := by simp [cost, h1, h2]
      go_enter Yba.func30, Yba.ntmps30
      go_wp2
      go_ret
      exact ⟨by first | rfl | (rw [hc]; rfl), rfl⟩
    · have h2' : ((i : Int) % 2 == 0) = false := by simp; omega
      have hc : cost m i = 1 := by simp [cost, h1, h2]
      go_enter Yba.func30, Yba.ntmps30
      go_wp2
      go_ret
      exact ⟨by first | rfl | (rw [hc]; rfl), rfl⟩

def flip (i : Nat) : Nat := if i % 2 = 0 then i + 1 else i - 1
theorem flip_lt {i m : Nat} (h : i < 6 * m) : flip i < 6 * m := by unfold flip; split <;> omega

theorem xor_one {i : Nat} (h : i < 100000) : bits .xor .i32 (i : Int) 1 = (flip i : Int) := by
  have e : i ^^^ 1 = flip i := by
    have h1 : (i ^^^ 1) % 2 = (i + 1) % 2 := by
      have h3 : (i ^^^ 1) % 2 ^ 1 = (i % 2 ^ 1) ^^^ (1 % 2 ^ 1) := Nat.xor_mod_two_pow
      rcases Nat.mod_two_eq_zero_or_one i with h4 | h4
      · simp only [Nat.pow_one, h4] at h3
        have h5 : (0 ^^^ 1 % 2 : Nat) = 1 := by decide
        omega
      · simp only [Nat.pow_one, h4] at h3
        have h5 : (1 ^^^ 1 % 2 : Nat) = 0 := by decide
        omega
    have h2 : (i ^^^ 1) / 2 = i / 2 := by rw [Nat.xor_div_two]; simp
    unfold flip
    split <;> omega
  have hl : flip i ≤ 100000 := by unfold flip; split <;> omega
  show IntKind.i32.wrap ((BitVec.ofInt 32 (i : Int) ^^^ BitVec.ofInt 32 ((1 : Nat) : Int)).toNat : Int) = _
  rw [BitVec.toNat_xor, ofInt_u32 i (by omega), ofInt_u32 1 (by omega), e, IntKind.wrap_i32]
  omega

set_option maxHeartbeats 2000000 in
set_option maxRecDepth 100000 in
theorem reduced (bc bh br bp ba : Nat) (G : Gr) (i : Nat) (w : World) (hG : GAt w bc bh br bp ba G) (hi : i < 6 * G.m) :
    Calls Yba.prog 23 #[.pointer (some ⟨bc, 0, none⟩), .int .i32 (i : Nat)] w fun e w' => e = .returned (.int .i64 (cost G.m i)) ∧ ∃ m, w' = w.drewN m := by
  have HG : Hid (GAt w bc bh br bp ba G) := hG
  have x1 : bits .xor .i32 (i : Int) 1 = (flip i : Int) := xor_one (by have := hG.mle; omega)
  have f0 := flip_lt hi
  have c0 := hG.head
  have c10 := hG.price
  have h1 := hG.hd _ hi
  have h2 := hG.hd _ f0
  have l1 := hG.hlt _ hi
  have l2 := hG.hlt _ f0
  have p1 := hG.pr _ l1
  have p2 := hG.pr _ l2
  have hm := hG.mle
  have hn := hG.nle
  generalize G.hd i = a at *
  generalize G.hd (flip i) = b at *
  generalize flip i = fl at *
  have q1 : (i : Int) < ((6 * G.m : Nat) : Int) := by omega
  have q2 : (fl : Int) < ((6 * G.m : Nat) : Int) := by omega
  have q3 : (a : Int) < (G.N : Int) := by omega
  have q4 : (b : Int) < (G.N : Int) := by omega
  clear hG
  have hc1 : cost G.m i ≤ 1 := cost_le _ _
  have hc2 : -1 ≤ cost G.m i := by unfold cost; split <;> (try split) <;> omega
  go_enter Yba.func23, Yba.ntmps23
  go_upto_region 1 with fail
  go_quiet ((go_at_call 30; exact Calls.quiet_of_same (costAt bc bh br bp ba G i _ (HG.out.drewN _) hi)))
  go_wp2
  go_ret
  exact ⟨rfl, nq, rfl⟩

set_option maxHeartbeats 2000000 in
set_option maxRecDepth 100000 in
theorem equal10 (g1 g2 n c1 c2 : Nat) (f : Nat → Int) (w : World) (hbig : n ≤ 100000) (h1 : ∀ j, j < n → w.cell? ⟨g1, j, none⟩ = some (.int .i64 (f j))) (h2 : ∀ j, j < n → w.cell? ⟨g2, j, none⟩ = some (.int .i64 (f j))) :
    Calls Yba.prog 10 #[.slice (some ⟨g1, 0, none⟩) n c1, .slice (some ⟨g2, 0, none⟩) n c2] w fun e w' => e = .returned (.bool true) ∧ ∃ m, w' = w.drewN m := by
  have k1 : Hid (∀ j, j < n → w.cell? ⟨g1, j, none⟩ = some (.int .i64 (f j)) ∧ w.cell? ⟨g2, j, none⟩ = some (.int .i64 (f j))) := fun j hj => ⟨h1 j hj, h2 j hj⟩
  have hx0 : ((n : Int) != (n : Int)) = false := by simp
  clear h1 h2
  go_enter Yba.func10, Yba.ntmps10
  go_wp2
  go_loopg [13] n (fun gk iv wr => ∃ i m : Nat, i + gk = n ∧ iv = .int .i64 (i : Nat) ∧ wr = w.drewN m)
  case atStart => exact ⟨0, 0, by omega, rfl, rfl⟩
  case round =>
    obtain ⟨i, m, hi, rfl, rfl⟩ := hrel
    have HI : Hid (i + gk = n) := hi
    by_cases hlt : i < n
    · obtain ⟨z1, z2⟩ := k1.out i hlt
      have hx : (f i != f i) = false := by simp
      have hI : (i : Int) < (n : Int) := by omega
      clear hi
      go_wp2
      go_quiet (fail)
      go_wp2
      go_roundg (gk - 1)
      case measure => have := HI.out; omega
      case rel => exact ⟨i + 1, m + nq, by have := HI.out; omega, by go_num, by simp [World.drewN]⟩
    · have hI : ¬ (i : Int) < (n : Int) := by omega
      go_wp2
      go_ret
      exact ⟨rfl, m, rfl⟩

set_option maxHeartbeats 2000000 in
set_option maxRecDepth 100000 in
theorem equal11 (g1 g2 n c1 c2 : Nat) (f : Nat → Int) (w : World) (hbig : n ≤ 100000) (h1 : ∀ j, j < n → w.cell? ⟨g1, j, none⟩ = some (.int .i64 (f j))) (h2 : ∀ j, j < n → w.cell? ⟨g2, j, none⟩ = some (.int .i64 (f j))) :
    Calls Yba.prog 11 #[.slice (some ⟨g1, 0, none⟩) n c1, .slice (some ⟨g2, 0, none⟩) n c2] w fun e w' => e = .returned (.bool true) ∧ ∃ m, w' = w.drewN m := by
  have k1 : Hid (∀ j, j < n → w.cell? ⟨g1, j, none⟩ = some (.int .i64 (f j)) ∧ w.cell? ⟨g2, j, none⟩ = some (.int .i64 (f j))) := fun j hj => ⟨h1 j hj, h2 j hj⟩
  have hx0 : ((n : Int) != (n : Int)) = false := by simp
  clear h1 h2
  go_enter Yba.func11, Yba.ntmps11
  go_wp2
  go_loopg [13] n (fun gk iv wr => ∃ i m : Nat, i + gk = n ∧ iv = .int .i64 (i : Nat) ∧ wr = w.drewN m)
  case atStart => exact ⟨0, 0, by omega, rfl, rfl⟩
  case round =>
    obtain ⟨i, m, hi, rfl, rfl⟩ := hrel
    have HI : Hid (i + gk = n) := hi
    by_cases hlt : i < n
    · obtain ⟨z1, z2⟩ := k1.out i hlt
      have hx : (f i != f i) = false := by simp
      have hI : (i : Int) < (n : Int) := by omega
      clear hi
      go_wp2
      go_quiet (fail)
      go_wp2
      go_roundg (gk - 1)
      case measure => have := HI.out; omega
      case rel => exact ⟨i + 1, m + nq, by have := HI.out; omega, by go_num, by simp [World.drewN]⟩
    · have hI : ¬ (i : Int) < (n : Int) := by omega
      go_wp2
      go_ret
      exact ⟨rfl, m, rfl⟩

set_option maxHeartbeats 2000000 in
set_option maxRecDepth 100000 in
theorem equal12 (g1 g2 n c1 c2 : Nat) (f : Nat → Int) (w : World) (hbig : n ≤ 100000) (h1 : ∀ j, j < n → w.cell? ⟨g1, j, none⟩ = some (.int .i32 (f j))) (h2 : ∀ j, j < n → w.cell? ⟨g2, j, none⟩ = some (.int .i32 (f j))) :
    Calls Yba.prog 12 #[.slice (some ⟨g1, 0, none⟩) n c1, .slice (some ⟨g2, 0, none⟩) n c2] w fun e w' => e = .returned (.bool true) ∧ ∃ m, w' = w.drewN m := by
  have k1 : Hid (∀ j, j < n → w.cell? ⟨g1, j, none⟩ = some (.int .i32 (f j)) ∧ w.cell? ⟨g2, j, none⟩ = some (.int .i32 (f j))) := fun j hj => ⟨h1 j hj, h2 j hj⟩
  have hx0 : ((n : Int) != (n : Int)) = false := by simp
  clear h1 h2
  go_enter Yba.func12, Yba.ntmps12
  go_wp2
  go_loopg [13] n (fun gk iv wr => ∃ i m : Nat, i + gk = n ∧ iv = .int .i64 (i : Nat) ∧ wr = w.drewN m)
  case atStart => exact ⟨0, 0, by omega, rfl, rfl⟩
  case round =>
    obtain ⟨i, m, hi, rfl, rfl⟩ := hrel
    have HI : Hid (i + gk = n) := hi
    by_cases hlt : i < n
    · obtain ⟨z1, z2⟩ := k1.out i hlt
      have hx : (f i != f i) = false := by simp
      have hI : (i : Int) < (n : Int) := by omega
      clear hi
      go_wp2
      go_quiet (fail)
      go_wp2
      go_roundg (gk - 1)
      case measure => have := HI.out; omega
      case rel => exact ⟨i + 1, m + nq, by have := HI.out; omega, by go_num, by simp [World.drewN]⟩
    · have hI : ¬ (i : Int) < (n : Int) := by omega
      go_wp2
      go_ret
      exact ⟨rfl, m, rfl⟩

end Go.Proofs.Ybulkcmrw.W
