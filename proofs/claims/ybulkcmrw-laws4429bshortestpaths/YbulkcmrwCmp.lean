/-
  cmp.Compare at strings, cmp.Or, the order of debts, and slices.BinarySearch at strings.
-/
import Derived.Test.YbulkcmrwShelf
import Derived.Test.YbulkcmrwSmall
import Derived.Sort.Walk0
import Derived.Laws.Strings2
import Derived.Laws.Cover1
import Derived.Deep.RegionHeld3
namespace Go.Proofs.Ybulkcmrw.W
open Go Go.RowKit Go.Proofs.Ybulkcmrw.Mem Go.Proofs.Ybulkcmrw.G

theorem mk_toList (l : List UInt8) : (ByteArray.mk l.toArray).toList = l := by rw [ByteArray.toList_eq]
theorem lt_irrefl (s : List UInt8) : ¬ s < s := List.lt_irrefl s
theorem lt_trans {s t u : List UInt8} (h : s < t) (k : t < u) : s < u := List.lt_trans h k
theorem lt_asymm {s t : List UInt8} (h : s < t) : ¬ t < s := List.lt_asymm h
theorem tri (s t : List UInt8) : s < t ∨ s = t ∨ t < s := by
  by_cases h : s < t
  · exact .inl h
  · by_cases k : t < s
    · exact .inr (.inr k)
    · exact .inr (.inl (List.le_antisymm (List.not_lt.1 k) (List.not_lt.1 h)))

def cS (a b : List UInt8) : Int := if a < b then -1 else if b < a then 1 else 0

set_option maxHeartbeats 2000000 in
set_option maxRecDepth 100000 in
theorem nanS (a : ByteArray) (w : World) : Calls Yba.prog 26 #[.string a] w fun e w' => e = .returned (.bool false) ∧ w' = w := by
  have hx : (a.toList == a.toList) = true := by simp
  go_enter Yba.func26, Yba.ntmps26
  go_wp2
  go_ret
  exact ⟨by first | rfl | simp, rfl⟩

set_option maxHeartbeats 2000000 in
set_option maxRecDepth 100000 in
theorem compareStr (a b : ByteArray) (w : World) : Calls Yba.prog 17 #[.string a, .string b] w fun e w' => e = .returned (.int .i64 (cS a.toList b.toList)) ∧ w' = w := by
  have e1 := bytesLess_eq a.toList b.toList
  rcases tri a.toList b.toList with h | h | h
  · rw [decide_eq_true h] at e1
    have hc : cS a.toList b.toList = -1 := by simp [cS, h]
    rw [hc]
    clear h hc
    go_enter Yba.func17, Yba.ntmps17
    go_wp2_with (go_at_call 26; refine (nanS _ _).mono ?_; rintro e w2 ⟨rfl, rfl⟩)
    go_ret
    exact ⟨rfl, rfl⟩
  · have e2 : Op.bytesLess a.toList b.toList = false := by rw [e1, h]; exact decide_eq_false (lt_irrefl _)
    have e3 : (a.toList == b.toList) = true := by rw [h]; simp
    have hc : cS a.toList b.toList = 0 := by rw [h]; simp [cS, lt_irrefl]
    rw [hc]
    clear h hc e1
    go_enter Yba.func17, Yba.ntmps17
    go_wp2_with (go_at_call 26; refine (nanS _ _).mono ?_; rintro e w2 ⟨rfl, rfl⟩)
    go_ret
    exact ⟨rfl, rfl⟩
  · have e2 : Op.bytesLess a.toList b.toList = false := by rw [e1]; exact decide_eq_false (lt_asymm h)
    have e3 : (a.toList == b.toList) = false := by
      rw [beq_eq_false_iff_ne]
      intro he
      rw [he] at h
      exact lt_irrefl _ h
    have hc : cS a.toList b.toList = 1 := by simp [cS, h, lt_asymm h]
    rw [hc]
    clear h hc e1
    go_enter Yba.func17, Yba.ntmps17
    go_wp2_with (go_at_call 26; refine (nanS _ _).mono ?_; rintro e w2 ⟨rfl, rfl⟩)
    go_ret
    exact ⟨rfl, rfl⟩

def orI (x y : Int) : Int := if x = 0 then y else x

set_option maxHeartbeats 2000000 in
set_option maxRecDepth 100000 in
theorem orInt (g c : Nat) (x y : Int) (w : World) (h0 : w.cell? ⟨g, 0, none⟩ = some (.int .i64 x)) (h1 : w.cell? ⟨g, 1, none⟩ = some (.int .i64 y)) :
    Calls Yba.prog 16 #[.slice (some ⟨g, 0, none⟩) 2 c] w fun e w' => e = .returned (.int .i64 (orI x y)) ∧ w' = w := by
  have H0 : Hid (_ = _) := h0
  have H1 : Hid (_ = _) := h1
  clear h0 h1
  go_enter Yba.func16, Yba.ntmps16
  go_wp2
  go_loopg [8] 2 (fun gk iv wr => ∃ i : Nat, i + gk = 2 ∧ iv = .int .i64 (i : Nat) ∧ wr = w ∧ (1 ≤ i → x = 0) ∧ (2 ≤ i → y = 0))
  case atStart => exact ⟨0, by omega, rfl, rfl, by omega, by omega⟩
  case round =>
    obtain ⟨i, hi, rfl, rfl, hx, hy⟩ := hrel
    have HI : Hid (i + gk = 2) := hi
    have HX : Hid (1 ≤ i → x = 0) := hx
    have HY : Hid (2 ≤ i → y = 0) := hy
    rcases (show i = 0 ∨ i = 1 ∨ i = 2 from by omega) with rfl | rfl | rfl
    · have c0 := H0.out
      clear hi hx hy
      by_cases hz : x = 0
      · have hz' : (x != 0) = false := by simp [hz]
        have HZ : Hid (x = 0) := hz
        clear hz
        go_wp2
        go_roundg 1
        case measure => have := HI.out; omega
        case rel => exact ⟨1, by omega, by go_num, rfl, fun _ => HZ.out, by omega⟩
      · have hz' : (x != 0) = true := by simp [hz]
        have HOR : Hid (orI x y = x) := by show orI x y = x; simp [orI, hz]
        clear hz
        go_wp2
        go_ret
        exact ⟨by rw [HOR.out]; rfl, rfl⟩
    · have c1 := H1.out
      have HOR : Hid (orI x y = y) := by show orI x y = y; simp [orI, hx (by omega)]
      clear hi hx hy
      by_cases hz : y = 0
      · have hz' : (y != 0) = false := by simp [hz]
        have HZ : Hid (y = 0) := hz
        clear hz
        go_wp2
        go_roundg 0
        case measure => have := HI.out; omega
        case rel => exact ⟨2, by omega, by go_num, rfl, fun _ => HX.out (by omega), fun _ => HZ.out⟩
      · have hz' : (y != 0) = true := by simp [hz]
        clear hz
        go_wp2
        go_ret
        exact ⟨by rw [HOR.out]; rfl, rfl⟩
    · have HOR : Hid (orI x y = 0) := by show orI x y = 0; simp [orI, hx (by omega), hy (by omega)]
      clear hi hx hy
      go_wp2
      go_ret
      exact ⟨by rw [HOR.out]; rfl, rfl⟩

/-- A debt. -/
abbrev Debt := List UInt8 × List UInt8 × Int
def encD (x : Debt) : List Value := [encStr x.1, encStr x.2.1, .int .i64 x.2.2]
def cfD (x y : Debt) : Int := orI (cS x.1 y.1) (cS x.2.1 y.2.1)

set_option maxHeartbeats 4000000 in
set_option maxRecDepth 100000 in
open Go.Sort in
theorem closure15 (x y : Debt) (W : World) : Calls Yba.prog 15 #[.agg (encD x).toArray, .agg (encD y).toArray] W fun e w' => e = .returned (.int .i64 (cfD x y)) ∧ ∃ q os', w' = grow (W.drewN q) os' := by
  obtain ⟨a1, a2, a3⟩ := x
  obtain ⟨b1, b2, b3⟩ := y
  have hcf : cfD (a1, a2, a3) (b1, b2, b3) = orI (cS (ByteArray.mk a1.toArray).toList (ByteArray.mk b1.toArray).toList) (cS (ByteArray.mk a2.toArray).toList (ByteArray.mk b2.toArray).toList) := by
    simp only [cfD, mk_toList]
  rw [hcf]
  clear hcf
  show Calls Yba.prog 15 #[.agg #[.string (ByteArray.mk a1.toArray), .string (ByteArray.mk a2.toArray), .int .i64 a3], .agg #[.string (ByteArray.mk b1.toArray), .string (ByteArray.mk b2.toArray), .int .i64 b3]] W _
  generalize ByteArray.mk a1.toArray = A1
  generalize ByteArray.mk a2.toArray = A2
  generalize ByteArray.mk b1.toArray = B1
  generalize ByteArray.mk b2.toArray = B2
  go_enter Yba.func15, Yba.ntmps15
  go_upto_region 1 with fail
  have hgr : (W.alloc (.cells #[.string A1, .string A2, .int .i64 a3] 29)).alloc (.cells #[.string B1, .string B2, .int .i64 b3] 29) = grow (W.drewN 0) (#[.cells #[.string A1, .string A2, .int .i64 a3] 29] ++ #[.cells #[.string B1, .string B2, .int .i64 b3] 29]) := by
    rw [alloc_eq_grow, alloc_eq_grow, grow_grow]; rfl
  have HGR : Hid (_ = _) := hgr
  have e1 : ((W.alloc (.cells #[.string A1, .string A2, .int .i64 a3] 29)).alloc (.cells #[.string B1, .string B2, .int .i64 b3] 29)).cell? ⟨W.heap.size, 0, none⟩ = some (.string A1) := by simp
  have e2 : ((W.alloc (.cells #[.string A1, .string A2, .int .i64 a3] 29)).alloc (.cells #[.string B1, .string B2, .int .i64 b3] 29)).cell? ⟨W.heap.size, 1, none⟩ = some (.string A2) := by simp
  have e3 : ((W.alloc (.cells #[.string A1, .string A2, .int .i64 a3] 29)).alloc (.cells #[.string B1, .string B2, .int .i64 b3] 29)).cell? ⟨W.heap.size + 1, 0, none⟩ = some (.string B1) := by simp
  have e4 : ((W.alloc (.cells #[.string A1, .string A2, .int .i64 a3] 29)).alloc (.cells #[.string B1, .string B2, .int .i64 b3] 29)).cell? ⟨W.heap.size + 1, 1, none⟩ = some (.string B2) := by simp
  clear hgr
  generalize (W.alloc (.cells #[.string A1, .string A2, .int .i64 a3] 29)).alloc (.cells #[.string B1, .string B2, .int .i64 b3] 29) = W2 at *
  go_region_held3 (fun w' => w'.cell? ⟨W.heap.size, 0, none⟩ = some (.string A1) ∧ w'.cell? ⟨W.heap.size, 1, none⟩ = some (.string A2) ∧ w'.cell? ⟨W.heap.size + 1, 0, none⟩ = some (.string B1) ∧ w'.cell? ⟨W.heap.size + 1, 1, none⟩ = some (.string B2)) (go_keep) (first | (go_at_call 17; refine (compareStr _ _ _).mono ?_; rintro e w3 ⟨rfl, rfl⟩) | (go_at_call 16; refine (orInt _ _ (cS A1.toList B1.toList) (cS A2.toList B2.toList) _ (by simp) (by simp)).mono ?_; rintro e w3 ⟨rfl, rfl⟩))
  all_goals
    go_wp2
    go_ret
    refine ⟨rfl, 1, (#[.cells #[.string A1, .string A2, .int .i64 a3] 29] ++ #[.cells #[.string B1, .string B2, .int .i64 b3] 29]) ++ #[.cells #[.int .i64 (cS A1.toList B1.toList), .int .i64 (cS A2.toList B2.toList)] 3], ?_⟩
    rw [HGR.out, alloc_eq_grow, grow_grow]
    rfl

/-- The closure's order is a strict weak one. -/
theorem cS_neg (a b : List UInt8) : cS a b < 0 ↔ a < b := by
  unfold cS
  by_cases h : a < b
  · simp [h]
  · rw [if_neg h]
    by_cases h2 : b < a
    · rw [if_pos h2]; simp [h]
    · rw [if_neg h2]; simp [h]
theorem cS_zero (a b : List UInt8) : cS a b = 0 ↔ a = b := by
  unfold cS
  constructor
  · intro h
    by_cases h1 : a < b
    · rw [if_pos h1] at h; omega
    · rw [if_neg h1] at h
      by_cases h2 : b < a
      · rw [if_pos h2] at h; omega
      · rcases tri a b with h3 | h3 | h3
        · exact absurd h3 h1
        · exact h3
        · exact absurd h3 h2
  · rintro rfl
    rw [if_neg (lt_irrefl a), if_neg (lt_irrefl a)]
theorem cfD_neg (x y : Debt) : cfD x y < 0 ↔ x.1 < y.1 ∨ x.1 = y.1 ∧ x.2.1 < y.2.1 := by
  unfold cfD orI
  by_cases h : cS x.1 y.1 = 0
  · rw [if_pos h, cS_neg]
    have he := (cS_zero _ _).1 h
    rw [he]
    constructor
    · exact fun h => .inr ⟨rfl, h⟩
    · rintro (h | h)
      · exact absurd h (lt_irrefl _)
      · exact h.2
  · rw [if_neg h, cS_neg]
    constructor
    · exact .inl
    · rintro (h1 | h1)
      · exact h1
      · exact absurd ((cS_zero _ _).2 h1.1) h

open Go.Sort in
theorem swoD : SWO (ltOf cfD) where
  irrefl x := by
    unfold ltOf
    rw [decide_eq_false_iff_not, cfD_neg]
    rintro (h | h)
    · exact lt_irrefl _ h
    · exact lt_irrefl _ h.2
  trans x y z h1 h2 := by
    unfold ltOf at *
    rw [decide_eq_true_eq, cfD_neg] at *
    rcases h1 with h1 | ⟨h1, h1'⟩ <;> rcases h2 with h2 | ⟨h2, h2'⟩
    · exact .inl (lt_trans h1 h2)
    · exact .inl (h2 ▸ h1)
    · exact .inl (h1 ▸ h2)
    · exact .inr ⟨h1.trans h2, lt_trans h1' h2'⟩
  ntrans x y z h1 h2 := by
    unfold ltOf at *
    rw [decide_eq_false_iff_not, cfD_neg] at *
    rintro (h | ⟨h, h'⟩)
    · rcases tri x.1 y.1 with h3 | h3 | h3
      · exact h1 (.inl h3)
      · exact h2 (.inl (h3 ▸ h))
      · exact h2 (.inl (lt_trans h3 h))
    · rcases tri x.1 y.1 with h3 | h3 | h3
      · exact h1 (.inl h3)
      · rcases tri x.2.1 y.2.1 with h4 | h4 | h4
        · exact h1 (.inr ⟨h3, h4⟩)
        · exact h2 (.inr ⟨h3 ▸ h, h4 ▸ h'⟩)
        · exact h2 (.inr ⟨h3 ▸ h, lt_trans h4 h'⟩)
      · exact h2 (.inl (h ▸ h3))

open Go.Sort Go.Shelf in
theorem sortDebts (blk cap : Nat) (d : Array Debt) (w : World) (hH : HoldsK encD 3 w blk 0 d) (hblk : blk < w.heap.size) (hsz : d.size < 4611686018427387904) :
    Calls Yba.prog 14 #[.slice (some ⟨blk, 0, none⟩) d.size cap, .func (.func 15) #[] #[]] w fun e w' => e = .returned (.tuple #[]) ∧ ∃ d' n os, PermIn 0 d.size d d' ∧ w' = sortWorldK encD 3 w blk 0 n d' os := by
  have eg : ∀ args w, (callFunc 15 args).run Yba.prog w = .ok (.enter 15 args) w := enters_of Yba.func15 (by kernel_rfl) rfl
  have hcon := AnyQ.slices_SortFunc Yba.sortDebts 3 Yba.isAgg29 Yba.sizeOf29 encD (fun _ => rfl) (fun x v hv => by simp [encD] at hv; rcases hv with rfl | rfl | rfl <;> rfl) cfD swoD 15 #[] blk 0 cap d w eg (fun _ _ _ _ x y => closure15 x y _) hH hblk hsz
  change Calls Yba.prog 14 _ _ _ at hcon
  exact hcon.mono fun e w' ⟨h1, d', n, os, h2, _, h4⟩ => ⟨h1, d', n, os, h2, h4⟩

/-- The strings rise. -/
def Rise (ks : List (List UInt8)) : Prop := ks.Pairwise (· < ·)
theorem Rise.lt {ks : List (List UInt8)} (h : Rise ks) {i j : Nat} (hij : i < j) (hj : j < ks.length) : ks[i] < ks[j] :=
  (List.pairwise_iff_getElem.1 h) i j (by omega) hj hij

set_option maxHeartbeats 2000000 in
set_option maxRecDepth 100000 in
theorem lessS (a b : ByteArray) (w : World) : Calls Yba.prog 28 #[.string a, .string b] w fun e w' => e = .returned (.bool (Op.bytesLess a.toList b.toList)) ∧ w' = w := by
  go_enter Yba.func28, Yba.ntmps28
  go_wp2
  go_ret
  exact ⟨rfl, rfl⟩

set_option maxHeartbeats 4000000 in
set_option maxRecDepth 100000 in
theorem searchN (g c k : Nat) (ks : List (List UInt8)) (x : ByteArray) (w : World) (hr : Rise ks) (hk : k < ks.length) (hx : x.toList = ks[k]) (hn : ks.length ≤ 100000) (hc : ∀ i (h : i < ks.length), w.cell? ⟨g, i, none⟩ = some (encStr ks[i])) :
    Calls Yba.prog 21 #[.slice (some ⟨g, 0, none⟩) ks.length c, .string x] w fun e w' => e = .returned (.tuple #[.int .i64 (k : Nat), .bool true]) ∧ w' = w := by
  have HC : Hid (∀ i (h : i < ks.length), ∃ kb : ByteArray, w.cell? ⟨g, i, none⟩ = some (.string kb) ∧ kb.toList = ks[i] ∧ Op.bytesLess kb.toList x.toList = decide (i < k) ∧ (i = k → (kb.toList == x.toList) = true)) := by
    intro i h
    refine ⟨ByteArray.mk ks[i].toArray, hc i h, mk_toList ks[i], ?_, ?_⟩
    · rw [mk_toList ks[i], hx, bytesLess_eq, decide_eq_decide]
      constructor
      · intro hl
        rcases Nat.lt_trichotomy i k with h1 | h1 | h1
        · exact h1
        · subst h1; exact absurd hl (lt_irrefl _)
        · exact absurd hl (lt_asymm (hr.lt h1 h))
      · intro hl; exact hr.lt hl hk
    · rintro rfl
      rw [mk_toList ks[i], hx]; simp
  clear hr hx hc
  go_enter Yba.func21, Yba.ntmps21
  go_wp2
  go_loopg [7, 8] ks.length (fun gk iv jv wr => ∃ i j : Nat, gk = j - i ∧ iv = .int .i64 (i : Nat) ∧ jv = .int .i64 (j : Nat) ∧ i ≤ k ∧ k ≤ j ∧ j ≤ ks.length ∧ wr = w)
  case atStart => exact ⟨0, ks.length, by omega, rfl, rfl, by omega, by omega, by omega, rfl⟩
  case round =>
    obtain ⟨i, j, hgk, rfl, rfl, h1, h2, h3, rfl⟩ := hrel
    have HG : Hid (gk = j - i) := hgk
    by_cases hlt : i < j
    · have hI : (i : Int) < (j : Int) := by omega
      obtain ⟨mid, hmi⟩ : ∃ mid, (i + j) / 2 = mid := ⟨_, rfl⟩
      have hm1 : i ≤ mid := by omega
      have hm2 : mid < j := by omega
      have hdv : ((i : Int) + (j : Int)) / 2 = (mid : Int) := by omega
      obtain ⟨kb, k1, k2, k3, k4⟩ := HC.out mid (by omega)
      clear hmi hgk k4 k2
      by_cases hmk : mid < k
      · rw [decide_eq_true hmk] at k3
        go_wp2_with fail
        refine (lessS _ _ _).mono ?_
        rintro e w2 ⟨rfl, rfl⟩
        go_wp2
        go_roundg (j - (mid + 1))
        case measure => have := HG.out; omega
        case rel => exact ⟨mid + 1, j, rfl, by go_num, rfl, by omega, h2, h3, rfl⟩
      · rw [decide_eq_false hmk] at k3
        go_wp2_with fail
        refine (lessS _ _ _).mono ?_
        rintro e w2 ⟨rfl, rfl⟩
        go_wp2
        go_roundg (mid - i)
        case measure => have := HG.out; omega
        case rel => exact ⟨i, mid, rfl, rfl, by go_num, h1, by omega, by omega, rfl⟩
    · have hI : ¬ (i : Int) < (j : Int) := by omega
      have hik : i = k := by omega
      subst hik
      obtain ⟨kb, k1, k2, k3, k4⟩ := HC.out i hk
      have k4' := k4 rfl
      have hI2 : (i : Int) < (ks.length : Int) := by omega
      clear hgk k4 k2 k3
      go_wp2
      go_ret2
      exact ⟨rfl, rfl⟩

set_option maxHeartbeats 2000000 in
set_option maxRecDepth 100000 in
theorem number (bn g c k : Nat) (ks : List (List UInt8)) (x : ByteArray) (w : World) (hr : Rise ks) (hk : k < ks.length) (hx : x.toList = ks[k]) (hn : ks.length ≤ 100000) (hv : w.cell? ⟨bn, 0, none⟩ = some (.slice (some ⟨g, 0, none⟩) ks.length c)) (hc : ∀ i (h : i < ks.length), w.cell? ⟨g, i, none⟩ = some (encStr ks[i])) :
    Calls Yba.prog 20 #[.string x, .pointer (some ⟨bn, 0, none⟩)] w fun e w' => e = .returned (.int .i32 (k : Nat)) ∧ w' = w := by
  have HS : Hid (Calls Yba.prog 21 _ w _) := searchN g c k ks x w hr hk hx hn hc
  clear hr hx hc
  go_enter Yba.func20, Yba.ntmps20
  go_wp2_with fail
  refine HS.out.mono ?_
  rintro e w2 ⟨rfl, rfl⟩
  go_wp2
  go_ret
  exact ⟨rfl, rfl⟩
end Go.Proofs.Ybulkcmrw.W
