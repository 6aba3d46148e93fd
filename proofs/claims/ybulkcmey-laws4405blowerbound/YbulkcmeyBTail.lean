/-
  node.key, node.size, compareTail.
-/
import Derived.Test.YbulkcmeyBBuild
import Derived.Laws.BytesArg
import Derived.Sort.Walk0
namespace Go.Proofs.Ybulkcmey.B
open Go Go.RowKit

theorem posAt_mono {pl : List UInt8} {ks : List (List UInt8)} : ∀ (d k : Nat), k + d ≤ ks.length → posAt pl ks k ≤ posAt pl ks (k + d)
  | 0, _, _ => Nat.le_refl _
  | d + 1, k, h => by
    have h1 := posAt_mono (pl := pl) (ks := ks) d k (by omega)
    have h2 := posAt_succ (pl := pl) (ks := ks) (k := k + d) (by omega)
    rw [← Nat.add_assoc]
    omega
theorem posAt_le_all {pl : List UInt8} {ks : List (List UInt8)} {k : Nat} (h : k ≤ ks.length) : posAt pl ks k ≤ posAt pl ks ks.length := by
  have := posAt_mono (pl := pl) (ks := ks) (ks.length - k) k (by omega)
  rwa [show k + (ks.length - k) = ks.length from by omega] at this

theorem bufAt_split {pl : List UInt8} {ks : List (List UInt8)} {i : Nat} (h : i < ks.length) : ∃ r, bufAt pl ks ks.length = bufAt pl ks i ++ ((pl ++ keyAt ks i) ++ r) := by
  refine ⟨(ks.drop (i + 1)).flatMap (pl ++ ·), ?_⟩
  have e : ks = ks.take i ++ (ks[i] :: ks.drop (i + 1)) := by simp
  rw [bufAt, bufAt, List.take_length, keyAt_eq h]
  have h1 : ks.flatMap (pl ++ ·) = (ks.take i ++ (ks[i] :: ks.drop (i + 1))).flatMap (pl ++ ·) := congrArg _ e
  rw [h1, List.flatMap_append, List.flatMap_cons, List.append_assoc]

theorem buf_byte {pl : List UInt8} {ks : List (List UInt8)} {i j : Nat} (h : i < ks.length) (hj : j < pl.length + (keyAt ks i).length) : byte (bufAt pl ks ks.length) (posAt pl ks i + j) = byte (pl ++ keyAt ks i) j := by
  obtain ⟨r, hr⟩ := bufAt_split (pl := pl) h
  rw [hr]
  have e : posAt pl ks i = (bufAt pl ks i).length := rfl
  rw [e, byte_append]
  have hj' : j < (pl ++ keyAt ks i).length := by simpa using hj
  simp only [byte, List.getD_eq_getElem?_getD]
  rw [List.getElem?_append_left hj']

section
variable {w : World} {hb g cap : Nat} {pl : List UInt8} {ks : List (List UInt8)}
theorem LiesB.drewN {n : Nat} {l : List UInt8} (h : LiesB w g n l) (m : Nat) : LiesB (w.drewN m) g n l := h
theorem NodeAt.drewN (h : NodeAt w hb g cap pl ks) (m : Nat) : NodeAt (w.drewN m) hb g cap pl ks := ⟨h.cnt, h.plen, h.heads, h.keys, h.pos, h.tails, h.bytes, h.room⟩
end

set_option maxHeartbeats 2000000 in
set_option maxRecDepth 100000 in
theorem sizeOf (hb g cap : Nat) (pl : List UInt8) (ks : List (List UInt8)) (w : World) (h : NodeAt w hb g cap pl ks) (hn : ks.length ≤ 31) :
    Calls Yba.prog 35 #[.pointer (some ⟨hb, 0, none⟩)] w fun e w' => e = .returned (.int .i64 (ks.length : Nat)) ∧ w' = w := by
  have c0 := h.cnt
  clear h
  go_enter Yba.func35, Yba.ntmps35
  go_wp2
  go_ret
  exact ⟨rfl, rfl⟩

set_option maxHeartbeats 2000000 in
set_option maxRecDepth 100000 in
theorem keyOf (hb g cap i : Nat) (pl : List UInt8) (ks : List (List UInt8)) (w : World) (h : NodeAt w hb g cap pl ks) (hi : i < ks.length) (hn : ks.length ≤ 31) :
    Calls Yba.prog 43 #[.pointer (some ⟨hb, 0, none⟩), .int .i64 (i : Nat)] w fun e w' => ∃ off, e = .returned (.slice (some ⟨g, off, none⟩) (pl.length + (keyAt ks i).length) (pl.length + (keyAt ks i).length)) ∧ (0 < pl.length + (keyAt ks i).length → off = posAt pl ks i) ∧ ∃ m, w' = w.drewN m := by
  have p0 := h.pos i (by omega)
  have p1 := h.pos (i + 1) (by omega)
  have hk := h.keys
  have hle := posAt_le_all (pl := pl) (k := i + 1) (ks := ks) (by omega)
  have hs := posAt_succ (pl := pl) (ks := ks) hi
  have hr := h.room
  obtain ⟨a, ha⟩ : ∃ a, posAt pl ks i = a := ⟨_, rfl⟩
  obtain ⟨L, hL⟩ : ∃ a, pl.length + (keyAt ks i).length = a := ⟨_, rfl⟩
  obtain ⟨z, hz⟩ : ∃ a, posAt pl ks ks.length = a := ⟨_, rfl⟩
  rw [hs] at p1 hle
  rw [ha, hL] at p1 hle
  rw [ha] at p0
  rw [hz] at hk hle hr
  rw [ha, hL]
  have hI : (i : Int) < 31 := by omega
  have hI2 : (i : Int) + 1 < 32 := by omega
  have q1 : (a : Int) ≤ ((a + L : Nat) : Int) := by omega
  have q2 : ((a + L : Nat) : Int) ≤ (cap : Int) := by omega
  clear h hs ha hL hz
  by_cases hL0 : L = 0
  · subst hL0
    have q3 : (a : Int) - (a : Int) = 0 := by omega
    go_enter Yba.func43, Yba.ntmps43
    go_upto_region 1 with fail
    go_quiet (fail)
    go_wp2
    all_goals
      go_ret
      exact ⟨_, rfl, fun h => absurd h (by omega), nq, rfl⟩
  · have q3 : ¬ (a + L = a) := by omega
    go_enter Yba.func43, Yba.ntmps43
    go_upto_region 1 with fail
    go_quiet (fail)
    go_wp2
    go_ret
    have eL : a + L - a = L := by omega
    rw [eL]
    exact ⟨a, rfl, fun _ => rfl, nq, rfl⟩

theorem strOf_bytes (l : List UInt8) : strOfNums (l.map fun b => (b.toNat : Int)) = ByteArray.mk l.toArray := by
  have e : l.map ((fun n : Int => UInt8.ofNat n.toNat) ∘ fun b : UInt8 => (b.toNat : Int)) = l := by
    conv => rhs; rw [← List.map_id l]
    apply List.map_congr_left
    intro b _
    simp
  simp [strOfNums, e]

/-- string(b) of bytes that lie. -/
theorem convB (w : World) (g off n c : Nat) (l : List UInt8) (hl : l.length = n) (hc : ∀ j, j < n → w.cell? ⟨g, off + j, none⟩ = some (.int .u8 (byte l j : Nat))) :
    (convert 23 9 (.slice (some ⟨g, off, none⟩) n c)).run Yba.prog w = .ok (.string (ByteArray.mk l.toArray)) w := by
  rw [run_convert_bytes_arg w 23 5 Yba.underlying23 Yba.underlying5 g off n c (l.map fun b => (b.toNat : Int)) (by simpa using hl) ?_ 9 Yba.underlying9, strOf_bytes]
  intro i hi
  rw [hc i hi]
  have hi' : i < l.length := by omega
  simp [byte, List.getD_eq_getElem?_getD, List.getElem?_eq_getElem hi']

/-- What compareTail's number tells. -/
def Tells (c : Int) (s q : List UInt8) : Prop := (c < 0 → s < q) ∧ (c = 0 → s = q) ∧ (0 < c → q < s) ∧ -1 ≤ c ∧ c ≤ 1

theorem tells_of {a b : Int} {s q : List UInt8} (h1 : a < b → s < q) (h2 : a = b → s = q) (h3 : b < a → q < s) : Tells (Lib.compareInt a b) s q := by
  unfold Tells Lib.compareInt
  by_cases hab : a < b
  · rw [if_pos hab]; exact ⟨fun _ => h1 hab, fun h => by omega, fun h => by omega, by omega, by omega⟩
  · rw [if_neg hab]
    by_cases hba : a > b
    · rw [if_pos hba]; exact ⟨fun h => by omega, fun h => by omega, fun _ => h3 hba, by omega, by omega⟩
    · rw [if_neg hba]; exact ⟨fun h => by omega, fun _ => h2 (by omega), fun h => by omega, by omega, by omega⟩

theorem tells_lens {s q : List UInt8} (p : Nat) (hh : head s 0 = head q 0) (ht : head s 4 = head q 4) (hs : s.length ≤ 8) (hq : q.length ≤ 8) (a b : Int) (ha : a = ((p + s.length : Nat) : Int)) (hb : b = ((p + q.length : Nat) : Int)) : Tells (Lib.compareInt a b) s q := by
  have h1 := of_lens hh ht hs hq
  have h2 := of_lens hh.symm ht.symm hq hs
  exact tells_of (fun h => h1.1 (by omega)) (fun h => h1.2 (by omega)) (fun h => h2.1 (by omega))

set_option maxHeartbeats 4000000 in
set_option maxRecDepth 100000 in
theorem compareS (hb g cap i : Nat) (pl : List UInt8) (ks : List (List UInt8)) (key : ByteArray) (q : List UInt8) (w : World) (h : NodeAt w hb g cap pl ks) (hi : i < ks.length) (hn : ks.length ≤ 31) (hp : posAt pl ks ks.length ≤ 63488) (hpl : pl.length ≤ 1024)
    (hk : key.toList = pl ++ q) (hh : head (keyAt ks i) 0 = head q 0) :
    Calls Yba.prog 36 #[.pointer (some ⟨hb, 0, none⟩), .int .i64 (i : Nat), .string key, .int .u32 (head q 4 : Nat)] w fun e w' => ∃ c, e = .returned (.int .i64 c) ∧ Tells c (keyAt ks i) q ∧ ∃ m, w' = w.drewN m := by
  have t0 := h.tails i hi
  have HN : Hid (NodeAt w hb g cap pl ks) := h
  have c1 := h.plen
  have hI : (i : Int) < 31 := by omega
  clear h
  by_cases ht : head (keyAt ks i) 4 = head q 4
  · obtain ⟨t, hte⟩ : ∃ t, head q 4 = t := ⟨_, rfl⟩
    rw [ht, hte] at t0
    rw [hte]
    have hx : ((t : Int) != (t : Int)) = false := by simp
    have HT : Hid (head (keyAt ks i) 4 = head q 4) := ht
    have HH : Hid (head (keyAt ks i) 0 = head q 0) := hh
    have HK : Hid (key.toList = pl ++ q) := hk
    have hsz : key.size = pl.length + q.length := by rw [← len_toList, hk, List.length_append]
    clear ht hte hh hk
    go_enter Yba.func36, Yba.ntmps36
    go_upto_region 4 with fail
    go_cut [10, 11] (fun kv nv wx => ∃ off, kv = .slice (some ⟨g, off, none⟩) (pl.length + (keyAt ks i).length) (pl.length + (keyAt ks i).length) ∧ (0 < pl.length + (keyAt ks i).length → off = posAt pl ks i) ∧ nv = .int .i64 ((pl.length : Int) + 8) ∧ ∃ m, wx = w.drewN m)
    case first =>
      have y0 : IntKind.i64.wrap (pl.length : Int) = (pl.length : Int) := IntWalk.i64_in _ (by omega)
      have y1 : IntKind.i64.wrap ((pl.length : Int) + 8) = (pl.length : Int) + 8 := IntWalk.i64_in _ (by omega)
      go_region_with (go_at_call 43; refine (keyOf hb g cap i pl ks _ (HN.out.drewN 1) hi hn).mono ?_; rintro e w3 ⟨off, rfl, hoff, m3, rfl⟩)
      all_goals (go_wp2_with fail; go_meet; exact ⟨off, rfl, hoff, by first | rfl | rw [y1] | rw [y0, y1], _, rfl⟩)
    case rest =>
      obtain ⟨off, rfl, hoff, rfl, m, hwc⟩ := hcut
      subst hwc
      obtain ⟨sk, hsk⟩ : ∃ sk, keyAt ks i = sk := ⟨_, rfl⟩
      have HO : Hid (0 < pl.length + sk.length → off = posAt pl ks i) := by rw [← hsk]; exact hoff
      rw [hsk] at HT HH ⊢
      have HB : Hid (∀ j, j < pl.length + sk.length → w.cell? ⟨g, off + j, none⟩ = some (.int .u8 (byte (pl ++ sk) j : Nat))) := by
        intro j hj
        have e1 : off = posAt pl ks i := HO.out (by omega)
        have hle := posAt_le_all (pl := pl) (k := i + 1) (ks := ks) (by omega)
        have hs := posAt_succ (pl := pl) (ks := ks) hi
        rw [hsk] at hs
        rw [e1, HN.out.bytes.2 _ (by omega), buf_byte hi (by rw [hsk]; exact hj), hsk]
      have hkl : sk.length ≤ 63488 := by
        have hle := posAt_le_all (pl := pl) (k := i + 1) (ks := ks) (by omega)
        have hs := posAt_succ (pl := pl) (ks := ks) hi
        rw [hsk] at hs
        omega
      have HSK : Hid (keyAt ks i = sk) := hsk
      clear hoff t0 c1 hsk
      by_cases hw : sk.length ≤ 8 ∧ q.length ≤ 8
      · have k1 : ((pl.length + sk.length : Nat) : Int) ≤ (pl.length : Int) + 8 := by omega
        have k2 : ((pl.length + q.length : Nat) : Int) ≤ (pl.length : Int) + 8 := by omega
        have HT2 : Hid (∀ a b : Int, a = ((pl.length + sk.length : Nat) : Int) → b = ((pl.length + q.length : Nat) : Int) → Tells (Lib.compareInt a b) (keyAt ks i) q) := by rw [HSK.out]; exact tells_lens pl.length HH.out HT.out hw.1 hw.2
        go_wp2_with fail
        refine (Yba.cmp_Compare_int _ _ _).mono ?_
        rintro e w5 ⟨rfl, rfl⟩
        go_wp2
        go_ret
        refine ⟨_, rfl, HT2.out _ _ ?_ ?_, m, rfl⟩ <;> omega
      · have hcv := convB (w.drewN m) g off (pl.length + sk.length) (pl.length + sk.length) (pl ++ sk) (by simp) HB.out
        have e1 : Op.bytesLess (ByteArray.mk (pl ++ sk).toArray).toList key.toList = decide (sk < q) := by
          rw [bytesLess_eq, mk_toList, HK.out]; exact decide_eq_decide.2 (append_lt _ _ _)
        have e2 : ((ByteArray.mk (pl ++ sk).toArray).toList == key.toList) = decide (sk = q) := by
          rw [mk_toList, HK.out, Bool.eq_iff_iff]; simp
        generalize ByteArray.mk (pl ++ sk).toArray = X at *
        have tl : Hid (∀ c : Int, c = -1 ∧ sk < q ∨ c = 0 ∧ sk = q ∨ c = 1 ∧ q < sk → Tells c (keyAt ks i) q) := by
          rw [HSK.out]
          rintro c (⟨rfl, h⟩ | ⟨rfl, h⟩ | ⟨rfl, h⟩)
          · exact ⟨fun _ => h, fun h => by omega, fun h => by omega, by omega, by omega⟩
          · exact ⟨fun h => by omega, fun _ => h, fun h => by omega, by omega, by omega⟩
          · exact ⟨fun h => by omega, fun h => by omega, fun _ => h, by omega, by omega⟩
        have hg : ¬ (((pl.length + sk.length : Nat) : Int) ≤ (pl.length : Int) + 8) ∨ (((pl.length + sk.length : Nat) : Int) ≤ (pl.length : Int) + 8 ∧ ¬ (((pl.length + q.length : Nat) : Int) ≤ (pl.length : Int) + 8)) := by omega
        clear HT HH HB HO hw
        rcases tri sk q with hl | hl | hl
        · rw [decide_eq_true hl] at e1
          have HL : Hid (sk < q) := hl
          clear hl e2
          rcases hg with hg | ⟨hg1, hg2⟩
          all_goals
            go_wp2
            go_ret
            exact ⟨_, rfl, tl.out _ (.inl ⟨rfl, HL.out⟩), m, rfl⟩
        · have e1' : Op.bytesLess X.toList key.toList = false := by rw [e1, hl]; exact decide_eq_false (lt_irrefl q)
          rw [decide_eq_true hl] at e2
          have HL : Hid (sk = q) := hl
          clear hl e1
          rcases hg with hg | ⟨hg1, hg2⟩
          all_goals
            go_wp2
            go_ret
            exact ⟨_, rfl, tl.out _ (.inr (.inl ⟨rfl, HL.out⟩)), m, rfl⟩
        · have e1' : Op.bytesLess X.toList key.toList = false := by rw [e1]; exact decide_eq_false (lt_asymm hl)
          have e2' : (X.toList == key.toList) = false := by rw [e2]; exact decide_eq_false (fun h => by rw [h] at hl; exact lt_irrefl q hl)
          have HL : Hid (q < sk) := hl
          clear hl e1 e2
          rcases hg with hg | ⟨hg1, hg2⟩
          all_goals
            go_wp2
            go_ret
            exact ⟨_, rfl, tl.out _ (.inr (.inr ⟨rfl, HL.out⟩)), m, rfl⟩
  · obtain ⟨t, hte⟩ : ∃ t, head q 4 = t := ⟨_, rfl⟩
    obtain ⟨u, hue⟩ : ∃ u, head (keyAt ks i) 4 = u := ⟨_, rfl⟩
    have HT : Hid (Tells (Lib.compareInt u t) (keyAt ks i) q) := by
      rw [← hte, ← hue]
      exact tells_of (fun h => lt_of_tail hh (by omega)) (fun h => absurd (by omega) ht) (fun h => lt_of_tail hh.symm (by omega))
    rw [hue] at t0
    rw [hte, hue] at ht
    rw [hte]
    have hx : ((u : Int) != (t : Int)) = true := by simp; omega
    clear ht hte hue hh hk
    go_enter Yba.func36, Yba.ntmps36
    go_wp2_with fail
    refine (compare32 _ _ _).mono ?_
    rintro e w5 ⟨rfl, rfl⟩
    go_wp2
    go_ret
    exact ⟨_, rfl, HT.out, 0, rfl⟩

set_option maxHeartbeats 4000000 in
set_option maxRecDepth 100000 in
theorem compareB (hb g cap i : Nat) (pl : List UInt8) (ks : List (List UInt8)) (gk nk ck : Nat) (q : List UInt8) (w : World) (h : NodeAt w hb g cap pl ks) (hi : i < ks.length) (hn : ks.length ≤ 31) (hp : posAt pl ks ks.length ≤ 63488) (hpl : pl.length ≤ 1024)
    (hk : LiesB w gk nk (pl ++ q)) (hh : head (keyAt ks i) 0 = head q 0) :
    Calls Yba.prog 38 #[.pointer (some ⟨hb, 0, none⟩), .int .i64 (i : Nat), .slice (some ⟨gk, 0, none⟩) nk ck, .int .u32 (head q 4 : Nat)] w fun e w' => ∃ c, e = .returned (.int .i64 c) ∧ Tells c (keyAt ks i) q ∧ ∃ m, w' = w.drewN m := by
  have t0 := h.tails i hi
  have HN : Hid (NodeAt w hb g cap pl ks) := h
  have c1 := h.plen
  have hI : (i : Int) < 31 := by omega
  clear h
  by_cases ht : head (keyAt ks i) 4 = head q 4
  · obtain ⟨t, hte⟩ : ∃ t, head q 4 = t := ⟨_, rfl⟩
    rw [ht, hte] at t0
    rw [hte]
    have hx : ((t : Int) != (t : Int)) = false := by simp
    have HT : Hid (head (keyAt ks i) 4 = head q 4) := ht
    have HH : Hid (head (keyAt ks i) 0 = head q 0) := hh
    have HK : Hid (LiesB w gk nk (pl ++ q)) := hk
    have hsz : nk = pl.length + q.length := by rw [← hk.1, List.length_append]
    subst hsz
    clear ht hte hh hk
    go_enter Yba.func38, Yba.ntmps38
    go_upto_region 4 with fail
    go_cut [10, 11] (fun kv nv wx => ∃ off, kv = .slice (some ⟨g, off, none⟩) (pl.length + (keyAt ks i).length) (pl.length + (keyAt ks i).length) ∧ (0 < pl.length + (keyAt ks i).length → off = posAt pl ks i) ∧ nv = .int .i64 ((pl.length : Int) + 8) ∧ ∃ m, wx = w.drewN m)
    case first =>
      have y0 : IntKind.i64.wrap (pl.length : Int) = (pl.length : Int) := IntWalk.i64_in _ (by omega)
      have y1 : IntKind.i64.wrap ((pl.length : Int) + 8) = (pl.length : Int) + 8 := IntWalk.i64_in _ (by omega)
      go_region_with (go_at_call 43; refine (keyOf hb g cap i pl ks _ (HN.out.drewN 1) hi hn).mono ?_; rintro e w3 ⟨off, rfl, hoff, m3, rfl⟩)
      all_goals (go_wp2_with fail; go_meet; exact ⟨off, rfl, hoff, by first | rfl | rw [y1] | rw [y0, y1], _, rfl⟩)
    case rest =>
      obtain ⟨off, rfl, hoff, rfl, m, hwc⟩ := hcut
      subst hwc
      obtain ⟨sk, hsk⟩ : ∃ sk, keyAt ks i = sk := ⟨_, rfl⟩
      have HO : Hid (0 < pl.length + sk.length → off = posAt pl ks i) := by rw [← hsk]; exact hoff
      rw [hsk] at HT HH ⊢
      have HB : Hid (∀ j, j < pl.length + sk.length → w.cell? ⟨g, off + j, none⟩ = some (.int .u8 (byte (pl ++ sk) j : Nat))) := by
        intro j hj
        have e1 : off = posAt pl ks i := HO.out (by omega)
        have hle := posAt_le_all (pl := pl) (k := i + 1) (ks := ks) (by omega)
        have hs := posAt_succ (pl := pl) (ks := ks) hi
        rw [hsk] at hs
        rw [e1, HN.out.bytes.2 _ (by omega), buf_byte hi (by rw [hsk]; exact hj), hsk]
      have hkl : sk.length ≤ 63488 := by
        have hle := posAt_le_all (pl := pl) (k := i + 1) (ks := ks) (by omega)
        have hs := posAt_succ (pl := pl) (ks := ks) hi
        rw [hsk] at hs
        omega
      have HSK : Hid (keyAt ks i = sk) := hsk
      clear hoff t0 c1 hsk
      by_cases hw : sk.length ≤ 8 ∧ q.length ≤ 8
      · have k1 : ((pl.length + sk.length : Nat) : Int) ≤ (pl.length : Int) + 8 := by omega
        have k2 : ((pl.length + q.length : Nat) : Int) ≤ (pl.length : Int) + 8 := by omega
        have HT2 : Hid (∀ a b : Int, a = ((pl.length + sk.length : Nat) : Int) → b = ((pl.length + q.length : Nat) : Int) → Tells (Lib.compareInt a b) (keyAt ks i) q) := by rw [HSK.out]; exact tells_lens pl.length HH.out HT.out hw.1 hw.2
        go_wp2_with fail
        refine (Yba.cmp_Compare_int _ _ _).mono ?_
        rintro e w5 ⟨rfl, rfl⟩
        go_wp2
        go_ret
        refine ⟨_, rfl, HT2.out _ _ ?_ ?_, m, rfl⟩ <;> omega
      · have hcv := convB (w.drewN m) g off (pl.length + sk.length) (pl.length + sk.length) (pl ++ sk) (by simp) HB.out
        have hcv2 := convB (w.drewN m) gk 0 (pl.length + q.length) ck (pl ++ q) (by simp) (fun j hj => by rw [Nat.zero_add]; exact HK.out.2 j hj)
        have e1 : Op.bytesLess (ByteArray.mk (pl ++ sk).toArray).toList (ByteArray.mk (pl ++ q).toArray).toList = decide (sk < q) := by
          rw [bytesLess_eq, mk_toList, mk_toList]; exact decide_eq_decide.2 (append_lt _ _ _)
        have e2 : ((ByteArray.mk (pl ++ sk).toArray).toList == (ByteArray.mk (pl ++ q).toArray).toList) = decide (sk = q) := by
          rw [mk_toList, mk_toList, Bool.eq_iff_iff]; simp
        generalize ByteArray.mk (pl ++ sk).toArray = X at *
        generalize ByteArray.mk (pl ++ q).toArray = key at *
        have tl : Hid (∀ c : Int, c = -1 ∧ sk < q ∨ c = 0 ∧ sk = q ∨ c = 1 ∧ q < sk → Tells c (keyAt ks i) q) := by
          rw [HSK.out]
          rintro c (⟨rfl, h⟩ | ⟨rfl, h⟩ | ⟨rfl, h⟩)
          · exact ⟨fun _ => h, fun h => by omega, fun h => by omega, by omega, by omega⟩
          · exact ⟨fun h => by omega, fun _ => h, fun h => by omega, by omega, by omega⟩
          · exact ⟨fun h => by omega, fun h => by omega, fun _ => h, by omega, by omega⟩
        have hg : ¬ (((pl.length + sk.length : Nat) : Int) ≤ (pl.length : Int) + 8) ∨ (((pl.length + sk.length : Nat) : Int) ≤ (pl.length : Int) + 8 ∧ ¬ (((pl.length + q.length : Nat) : Int) ≤ (pl.length : Int) + 8)) := by omega
        clear HT HH HB HO hw
        rcases tri sk q with hl | hl | hl
        · rw [decide_eq_true hl] at e1
          have HL : Hid (sk < q) := hl
          clear hl e2
          rcases hg with hg | ⟨hg1, hg2⟩
          all_goals
            go_wp2
            go_ret
            exact ⟨_, rfl, tl.out _ (.inl ⟨rfl, HL.out⟩), m, rfl⟩
        · have e1' : Op.bytesLess X.toList key.toList = false := by rw [e1, hl]; exact decide_eq_false (lt_irrefl q)
          rw [decide_eq_true hl] at e2
          have HL : Hid (sk = q) := hl
          clear hl e1
          rcases hg with hg | ⟨hg1, hg2⟩
          all_goals
            go_wp2
            go_ret
            exact ⟨_, rfl, tl.out _ (.inr (.inl ⟨rfl, HL.out⟩)), m, rfl⟩
        · have e1' : Op.bytesLess X.toList key.toList = false := by rw [e1]; exact decide_eq_false (lt_asymm hl)
          have e2' : (X.toList == key.toList) = false := by rw [e2]; exact decide_eq_false (fun h => by rw [h] at hl; exact lt_irrefl q hl)
          have HL : Hid (q < sk) := hl
          clear hl e1 e2
          rcases hg with hg | ⟨hg1, hg2⟩
          all_goals
            go_wp2
            go_ret
            exact ⟨_, rfl, tl.out _ (.inr (.inr ⟨rfl, HL.out⟩)), m, rfl⟩
  · obtain ⟨t, hte⟩ : ∃ t, head q 4 = t := ⟨_, rfl⟩
    obtain ⟨u, hue⟩ : ∃ u, head (keyAt ks i) 4 = u := ⟨_, rfl⟩
    have HT : Hid (Tells (Lib.compareInt u t) (keyAt ks i) q) := by
      rw [← hte, ← hue]
      exact tells_of (fun h => lt_of_tail hh (by omega)) (fun h => absurd (by omega) ht) (fun h => lt_of_tail hh.symm (by omega))
    rw [hue] at t0
    rw [hte, hue] at ht
    rw [hte]
    have hx : ((u : Int) != (t : Int)) = true := by simp; omega
    clear ht hte hue hh hk
    go_enter Yba.func38, Yba.ntmps38
    go_wp2_with fail
    refine (compare32 _ _ _).mono ?_
    rintro e w5 ⟨rfl, rfl⟩
    go_wp2
    go_ret
    exact ⟨_, rfl, HT.out, 0, rfl⟩
end Go.Proofs.Ybulkcmey.B
