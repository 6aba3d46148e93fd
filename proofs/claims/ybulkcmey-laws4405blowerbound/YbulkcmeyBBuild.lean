/-
  zzs4405bbuild: the leaf that holds p + s for each s.
-/
import Derived.Test.YbulkcmeyBKeys
import Derived.Lib.Endian
import Derived.Lib.UnsafeStr
namespace Go.Proofs.Ybulkcmey.B
open Go Go.RowKit

/-- The middle states: the node's block holds C; v owns the bytes bs. -/
structure NS (B hb : Nat) (w wx : World) (C : Array Value) (v : Value) (n : Nat) (bs : List Value) : Prop where
  blk : wx.heap[hb]? = some (.cells C 94 (0, 0))
  row : wx.ownsRow B 5 1 v n bs
  bel : Below B w wx
  hB : B ≤ hb
  sz : B ≤ wx.heap.size

section
variable {B hb : Nat} {w wx : World} {C : Array Value} {v : Value} {n : Nat} {bs : List Value}
theorem NS.drew (h : NS B hb w wx C v n bs) : NS B hb w wx.drew C v n bs := ⟨h.blk, h.row, h.bel.drew, h.hB, h.sz⟩
theorem NS.drewN (h : NS B hb w wx C v n bs) (m : Nat) : NS B hb w (wx.drewN m) C v n bs := ⟨h.blk, h.row, h.bel.trans ⟨rfl, rfl, rfl, Nat.le_refl _, fun _ _ => rfl⟩, h.hB, h.sz⟩
theorem NS.ne (h : NS B hb w wx C v n bs) : some hb ≠ v.ownBlock := by
  rcases h.row.2 with ⟨rfl, _⟩ | ⟨g, cap, cur, rfl, _, hgg, _⟩
  · simp [Value.ownBlock]
  · simp only [Value.ownBlock]
    intro e
    simp at e
    subst e
    rw [h.blk] at hgg
    simp at hgg
theorem NS.grow (h : NS B hb w wx C v n bs) {w' : World} {v' : Value} {n' : Nat} {bs' : List Value} (hg : wx.grownBy w' v.ownBlock) (ho : w'.ownsRow B 5 1 v' n' bs') : NS B hb w w' C v' n' bs' :=
  ⟨(hg.block hb (Array.getElem?_eq_some_iff.1 h.blk).1 h.ne).trans h.blk, ho, h.bel.grown hg h.sz (fun k hk => (h.row.lt k hk).1), h.hB, Nat.le_trans h.sz hg.size⟩
theorem NS.store (h : NS B hb w wx C v n bs) (o : Nat) (u : Value) : NS B hb w (wx.setCell ⟨hb, o, none⟩ u) (C.setIfInBounds o u) v n bs := by
  refine ⟨blk_set h.blk o u, ⟨h.row.1, ?_⟩, h.bel.setCell (p := ⟨hb, o, none⟩) h.hB u, h.hB, by simpa [World.setCell] using h.sz⟩
  rcases h.row.2 with hn | ⟨g, cap, cur, rfl, hbg, hgg, rest⟩
  · exact .inl hn
  · refine .inr ⟨g, cap, cur, rfl, hbg, ?_, rest⟩
    rw [Below.heap_setCell wx ⟨hb, o, none⟩ u g ?_]
    · exact hgg
    · intro e
      have e' : g = hb := e
      subst e'
      rw [h.blk] at hgg
      simp at hgg
theorem NS.free (h : NS B hb w wx C v n bs) (o : Nat) : wx.frozen? ⟨hb, o, none⟩ = false := blk_free h.blk o
theorem NS.cell (h : NS B hb w wx C v n bs) (o : Nat) (ho : o < C.size) : ∃ u, wx.cell? ⟨hb, o, none⟩ = some u := by
  obtain ⟨u, hu⟩ := some_at C o ho
  exact ⟨u, (blk_cell h.blk o).trans hu⟩
end

/-- The keys' bytes, one after another. -/
def bufAt (pl : List UInt8) (ks : List (List UInt8)) (k : Nat) : List UInt8 := (ks.take k).flatMap (pl ++ ·)
def posAt (pl : List UInt8) (ks : List (List UInt8)) (k : Nat) : Nat := (bufAt pl ks k).length
def keyAt (ks : List (List UInt8)) (j : Nat) : List UInt8 := ks.getD j []
def hdAt (ks : List (List UInt8)) (k j : Nat) : Nat := if j < k then head (keyAt ks j) 0 else 4294967295

theorem keyAt_eq {ks : List (List UInt8)} {j : Nat} (h : j < ks.length) : keyAt ks j = ks[j] := by simp [keyAt, List.getD_eq_getElem?_getD, List.getElem?_eq_getElem h]
theorem bufAt_succ {pl : List UInt8} {ks : List (List UInt8)} {k : Nat} (h : k < ks.length) : bufAt pl ks (k + 1) = bufAt pl ks k ++ (pl ++ keyAt ks k) := by
  rw [bufAt, bufAt, List.take_succ_eq_append_getElem h, List.flatMap_append, keyAt_eq h]
  simp
theorem posAt_succ {pl : List UInt8} {ks : List (List UInt8)} {k : Nat} (h : k < ks.length) : posAt pl ks (k + 1) = posAt pl ks k + (pl.length + (keyAt ks k).length) := by
  rw [posAt, bufAt_succ h, List.length_append, List.length_append]; rfl
theorem posAt_le {pl : List UInt8} {ks : List (List UInt8)} (hp : pl.length ≤ 1024) (hk : ∀ s ∈ ks, s.length ≤ 1024) : ∀ k, k ≤ ks.length → posAt pl ks k ≤ k * 2048
  | 0, _ => by simp [posAt, bufAt]
  | k + 1, h => by
    have ih := posAt_le hp hk k (by omega)
    have h1 := posAt_succ (pl := pl) (ks := ks) (k := k) (by omega)
    have h2 := hk (keyAt ks k) (by rw [keyAt_eq (by omega)]; exact List.getElem_mem _)
    omega

/-- What the node's cells tell once k keys are in. -/
structure Built (pl : List UInt8) (ks : List (List UInt8)) (k : Nat) (C : Array Value) : Prop where
  size : C.size = 99
  plen : C[1]? = some (.int .u16 (pl.length : Nat))
  heads : ∀ j, j < 31 → C[2 + j]? = some (.int .u32 (hdAt ks k j : Nat))
  pos : ∀ j, j ≤ k → C[36 + j]? = some (.int .u32 (posAt pl ks j : Nat))
  tails : ∀ j, j < k → C[68 + j]? = some (.int .u32 (head (keyAt ks j) 4 : Nat))

theorem Built.step {pl : List UInt8} {ks : List (List UInt8)} {k : Nat} {C : Array Value} (h : Built pl ks k C) (hk : k < 31) :
    Built pl ks (k + 1) (((C.setIfInBounds (2 + k) (.int .u32 (head (keyAt ks k) 0 : Nat))).setIfInBounds (68 + k) (.int .u32 (head (keyAt ks k) 4 : Nat))).setIfInBounds (36 + (k + 1)) (.int .u32 (posAt pl ks (k + 1) : Nat))) := by
  have hs := h.size
  refine ⟨by simpa using hs, ?_, ?_, ?_, ?_⟩
  · rw [set_other _ _ _ _ (by omega), set_other _ _ _ _ (by omega), set_other _ _ _ _ (by omega)]; exact h.plen
  · intro j hj
    rw [set_other _ _ _ _ (by omega), set_other _ _ _ _ (by omega)]
    by_cases e : j = k
    · subst e
      rw [set_same _ _ _ (by omega)]
      simp [hdAt]
    · rw [set_other _ _ _ _ (by omega), h.heads j hj]
      have : (j < k + 1) = (j < k) := by rw [eq_iff_iff]; omega
      simp [hdAt, this]
  · intro j hj
    by_cases e : j = k + 1
    · subst e
      rw [set_same _ _ _ (by simp; omega)]
    · rw [set_other _ _ _ _ (by omega), set_other _ _ _ _ (by omega), set_other _ _ _ _ (by omega)]
      exact h.pos j (by omega)
  · intro j hj
    rw [set_other _ _ _ _ (by omega)]
    by_cases e : j = k
    · subst e
      rw [set_same _ _ _ (by simp; omega)]
    · rw [set_other _ _ _ _ (by omega), set_other _ _ _ _ (by omega)]
      exact h.tails j (by omega)

/-- The finished leaf. -/
structure NodeAt (w : World) (hb g cap : Nat) (pl : List UInt8) (ks : List (List UInt8)) : Prop where
  cnt : w.cell? ⟨hb, 0, none⟩ = some (.int .u16 (ks.length : Nat))
  plen : w.cell? ⟨hb, 1, none⟩ = some (.int .u16 (pl.length : Nat))
  heads : ∀ j, j < 31 → w.cell? ⟨hb, 2 + j, none⟩ = some (.int .u32 (hdAt ks ks.length j : Nat))
  keys : w.cell? ⟨hb, 33, none⟩ = some (.slice (some ⟨g, 0, none⟩) (posAt pl ks ks.length) cap)
  pos : ∀ j, j ≤ ks.length → w.cell? ⟨hb, 36 + j, none⟩ = some (.int .u32 (posAt pl ks j : Nat))
  tails : ∀ j, j < ks.length → w.cell? ⟨hb, 68 + j, none⟩ = some (.int .u32 (head (keyAt ks j) 4 : Nat))
  bytes : LiesB w g (posAt pl ks ks.length) (bufAt pl ks ks.length)
  room : posAt pl ks ks.length ≤ cap

theorem strCells_bytes (s : ByteArray) : Lib.strCells s = Lib.byteCells s.toList := by
  rw [ByteArray.toList_eq]; rfl

theorem info5 : (Yba.prog.info? 5).map (fun i => (i.zero, i.size, i.bytes)) = some (some (.int .u8 0), 1, 1) := by kernel_rfl

theorem append_toList (a b : ByteArray) : (a ++ b).toList = a.toList ++ b.toList := by
  rw [ByteArray.toList_eq, ByteArray.toList_eq, ByteArray.toList_eq, ByteArray.data_append, Array.toList_append]
theorem mk_toList (l : List UInt8) : (ByteArray.mk l.toArray).toList = l := by rw [ByteArray.toList_eq]

theorem headSz (s : ByteArray) (o : Nat) (z : Int) (hz : z = (o : Nat)) (ho : o ≤ 100000) (w : World) :
    Calls Yba.prog 33 #[.string s, .int .i64 z] w fun e w' => e = .returned (.int .u32 (head s.toList o : Nat)) ∧ ∃ m, w' = w.drewN m := by
  subst hz
  exact headS s o ho w

set_option maxHeartbeats 4000000 in
set_option maxRecDepth 100000 in
theorem build (p : ByteArray) (g0 c0 : Nat) (ks : List (List UInt8)) (w : World) (hp : p.size ≤ 1024) (hk : ∀ s ∈ ks, s.length ≤ 1024) (hn : ks.length ≤ 31)
    (hg0 : g0 < w.heap.size) (hc : ∀ i (h : i < ks.length), w.cell? ⟨g0, i, none⟩ = some (encStr ks[i])) :
    Calls Yba.prog 20 #[.string p, .slice (some ⟨g0, 0, none⟩) ks.length c0] w fun e w' => ∃ hb g cap, e = .returned (.pointer (some ⟨hb, 0, none⟩)) ∧ NodeAt w' hb g cap p.toList ks ∧ Below w.heap.size w w' := by
  obtain ⟨i5, hi5, hz50, hz51, hz52⟩ := info_parts info5
  have hpl : p.toList.length = p.size := len_toList p
  have HC : Hid (∀ i (h : i < ks.length), w.cell? ⟨g0, i, none⟩ = some (encStr ks[i])) := hc
  have HK : Hid (∀ s ∈ ks, s.length ≤ 1024) := hk
  have HP : Hid (∀ k, k ≤ ks.length → posAt p.toList ks k ≤ k * 2048) := posAt_le (by omega) hk
  clear hc hk
  go_enter Yba.func20, Yba.ntmps20
  go_wp2_with fail
  refine (newNode w).mono ?_
  rintro e w1 ⟨hb, C0, rfl, hblk, hsz, hhd, h36, hhb, hbel⟩
  have HD : Hid (∀ j, j < 31 → C0[2 + j]? = some (.int .u32 4294967295)) := hhd
  have hz1 : w.heap.size ≤ w1.heap.size := hbel.size
  obtain ⟨u1, hu1⟩ := some_at C0 1 (by omega)
  have d1 := (blk_cell hblk 1).trans hu1
  have f1 := blk_free hblk
  have HB : Hid (w1.heap[hb]? = _) := hblk
  clear hhd hblk
  go_upto_region 3 with fail
  have hB1 : Built p.toList ks 0 (C0.setIfInBounds 1 (.int .u16 (p.size : Nat))) := by
    refine ⟨by simpa using hsz, by rw [set_same _ _ _ (by omega), hpl], ?_, ?_, ?_⟩
    · intro j hj
      rw [set_other _ _ _ _ (by omega), HD.out j hj]
      simp [hdAt]
    · intro j hj
      obtain rfl : j = 0 := by omega
      rw [set_other _ _ _ _ (by omega)]
      simpa [posAt, bufAt] using h36
    · intro j hj; omega
  have hbl1 := blk_set HB.out 1 (.int .u16 (p.size : Nat))
  have hbe1 := hbel.setCell (p := ⟨hb, 1, none⟩) hhb (.int .u16 (p.size : Nat))
  have hs1 : w.heap.size ≤ (w1.setCell ⟨hb, 1, none⟩ (.int .u16 (p.size : Nat))).heap.size := hbe1.size
  generalize w1.setCell ⟨hb, 1, none⟩ (.int .u16 (p.size : Nat)) = W1 at *
  generalize C0.setIfInBounds 1 (.int .u16 (p.size : Nat)) = C1 at *
  clear HB f1 d1 hu1 HD h36 hsz hbel hz1
  go_wp2_with (at_make; refine wpList_make_full _ rfl _ _ 23 rfl w.heap.size 5 i5 (.int .u8 0) 1 Yba.underlying23 hi5 hz50 hz51 .i64 .i64 _ _ 0 rfl rfl rfl rfl ?m1 ?m2 hs1 ?_)
  case m1 => omega
  case m2 => decide
  rw [show (madeCells #[Value.int .u8 0] 0).toList = [] from by simp [madeCells]]
  intro w2 ho2 hg2
  have s2 : NS w.heap.size hb w w2 C1 (.slice (some ⟨W1.heap.size, 0, none⟩) 0 0) 0 [] := by
    have hlt := (Array.getElem?_eq_some_iff.1 hbl1).1
    exact ⟨(hg2.block hb hlt (by simp)).trans hbl1, ho2, hbe1.grown hg2 hs1 (by simp), hhb, Nat.le_trans hs1 hg2.size⟩
  clear ho2 hg2 hbl1 hbe1 hs1
  go_upto_block 0 with fail
  go_cut [6] (fun bv wx => ∃ C, NS w.heap.size hb w wx C bv (posAt p.toList ks ks.length) (Lib.byteCells (bufAt p.toList ks ks.length)) ∧ Built p.toList ks ks.length C ∧ bv ≠ .slice none 0 0)
  case first =>
    go_wp2_with fail
    go_loopg [6, 20] ks.length (fun gk bv iv wr => ∃ (i : Nat) (C : Array Value), i + gk = ks.length ∧ iv = .int .i64 (i : Nat) ∧ NS w.heap.size hb w wr C bv (posAt p.toList ks i) (Lib.byteCells (bufAt p.toList ks i)) ∧ Built p.toList ks i C ∧ bv ≠ .slice none 0 0)
    case atStart => exact ⟨0, C1, by omega, rfl, s2, hB1, by simp⟩
    case round =>
      obtain ⟨i, C, hi, rfl, sr, hB, hnn⟩ := hrel
      have HI : Hid (i + gk = ks.length) := hi
      by_cases hlt : i < ks.length
      · have hI : (i : Int) < (ks.length : Int) := by omega
        have hi31 : i < 31 := by omega
        have hkc0 : wr.cell? ⟨g0, i, none⟩ = some (encStr ks[i]) := (sr.bel.cell (p := ⟨g0, i, none⟩) hg0).trans (HC.out i hlt)
        have hkl : ks[i].length ≤ 1024 := HK.out _ (List.getElem_mem hlt)
        obtain ⟨kb, hkb⟩ : ∃ kb : ByteArray, ByteArray.mk ks[i].toArray = kb := ⟨_, rfl⟩
        have hkt : kb.toList = keyAt ks i := by rw [← hkb, mk_toList, keyAt_eq hlt]
        have hks : kb.size ≤ 1024 := by rw [← hkb]; exact hkl
        have hkc : wr.cell? ⟨g0, i, none⟩ = some (.string kb) := by rw [← hkb]; exact hkc0
        have HNS : Hid (NS w.heap.size hb w wr C _ _ _) := sr
        have HBU : Hid (Built p.toList ks i C) := hB
        have HNN : Hid (_ ≠ Value.slice none 0 0) := hnn
        have hsum : ¬ p.size + kb.size > 9223372036854775807 := by omega
        have hfs : (p ++ kb).size = p.size + kb.size := ByteArray.size_append ..
        have hft : (p ++ kb).toList = p.toList ++ keyAt ks i := by rw [append_toList, hkt]
        have hpos := HP.out i (by omega)
        have hpos1 := HP.out (i + 1) (by omega)
        have hps := posAt_succ (pl := p.toList) hlt
        have hkk : (keyAt ks i).length = kb.size := by rw [← hkt, len_toList]
        clear hi sr hB hnn hkb hkl hkc0
        go_upto_region 8 with fail
        generalize p ++ kb = full at *
        have hh0 : head full.toList p.size = head (keyAt ks i) 0 := by rw [hft, ← hpl]; exact head_append0 _ _
        have hh4 : head full.toList (p.size + 4) = head (keyAt ks i) 4 := by rw [hft, ← hpl]; exact head_append _ _ 4
        go_cut [] (fun wx => NS w.heap.size hb w wx (C.setIfInBounds (2 + i) (.int .u32 (head (keyAt ks i) 0 : Nat))) u6 (posAt p.toList ks i) (Lib.byteCells (bufAt p.toList ks i)))
        case first =>
          obtain ⟨u0, cu0⟩ := HNS.out.cell (2 + i) (by have := HBU.out.size; omega)
          have fz := HNS.out.free
          clear hft hfs
          go_region_with (go_at_call 33; refine (headS full p.size (by omega) _).mono ?_; rintro e w3 ⟨rfl, m3, rfl⟩)
          all_goals (go_wp2_with fail; go_meet; exact (HNS.out.drewN _).store _ _)
        case rest =>
          have HN1 : Hid (NS w.heap.size hb w _ (C.setIfInBounds (2 + i) (.int .u32 (head (keyAt ks i) 0 : Nat))) u6 (posAt p.toList ks i) (Lib.byteCells (bufAt p.toList ks i))) := hcut
          clear hcut HNS hkc
          rename World => W3
          go_upto_region 9 with fail
          go_cut [] (fun wx => NS w.heap.size hb w wx ((C.setIfInBounds (2 + i) (.int .u32 (head (keyAt ks i) 0 : Nat))).setIfInBounds (68 + i) (.int .u32 (head (keyAt ks i) 4 : Nat))) u6 (posAt p.toList ks i) (Lib.byteCells (bufAt p.toList ks i)))
          case first =>
            obtain ⟨u0, cu0⟩ := HN1.out.cell (68 + i) (by have := HBU.out.size; simp; omega)
            have fz := HN1.out.free
            clear hft hfs
            go_region_with (go_at_call 33; refine (headSz full (p.size + 4) _ (by rw [IntWalk.i64_in _ (by omega)]; omega) (by omega) _).mono ?_; rintro e w3 ⟨rfl, m3, rfl⟩)
            all_goals (go_wp2_with fail; go_meet; exact (HN1.out.drewN _).store _ _)
          case rest =>
            have s2 := hcut
            clear hcut HN1
            rename World => W4
            go_wp2_with (at_builtin; refine Lib.wpList_append_own_string _ rfl (.tmp 47) (.tmp 48) 23 9 rfl w.heap.size 5 i5 Yba.underlying23 Yba.underlying9 hi5 hz50 hz51 hz52 _ _ _ rfl s2.row full rfl ?a1 ?a2 s2.sz ?_)
            case a1 => unfold maxLen; omega
            case a2 => omega
            intro v5 w5 ho5 hg5 hnil
            have s5 := s2.grow hg5 ho5
            have hnn5 : Hid (v5 ≠ .slice none 0 0) := fun e => HNN.out (hnil.1 e).1
            have ecat : Lib.byteCells (bufAt p.toList ks i) ++ Lib.strCells full = Lib.byteCells (bufAt p.toList ks (i + 1)) := by
              rw [strCells_bytes, hft, bufAt_succ hlt]; simp [Lib.byteCells]
            have elen : posAt p.toList ks i + (p.size + kb.size) = posAt p.toList ks (i + 1) := by omega
            rw [ecat, elen] at s5
            obtain ⟨g5, c5, rfl⟩ : ∃ g c, v5 = .slice (some ⟨g, 0, none⟩) (posAt p.toList ks (i + 1)) c := by
              rcases s5.row.2 with ⟨hv, _⟩ | ⟨g, cap, cur, hv, _⟩
              · exact absurd hv hnn5.out
              · exact ⟨g, cap, hv⟩
            obtain ⟨u0, cu0⟩ := s5.cell (36 + (i + 1)) (by have := HBU.out.size; simp; omega)
            have fz := s5.free
            have HS5 : Hid (NS w.heap.size hb w w5 _ _ _ _) := s5
            clear s2 ho5 hg5 hnil s5 ecat elen hft
            go_wp2
            go_roundg (gk - 1)
            case measure => have := HI.out; omega
            case rel =>
              have ev : ((posAt p.toList ks (i + 1) : Nat) : Int) = (posAt p.toList ks i : Int) + ((p.size : Int) + (kb.size : Int)) := by omega
              have b := HBU.out.step hi31
              rw [ev] at b
              exact ⟨i + 1, _, by have := HI.out; omega, by go_num, HS5.out.store (36 + (i + 1)) _, b, hnn5.out⟩
      · have hI : ¬ (i : Int) < (ks.length : Int) := by omega
        have hie : i = ks.length := by omega
        have HE : Hid (i = ks.length) := hie
        have HNS : Hid (NS w.heap.size hb w wr C _ _ _) := sr
        have HBU : Hid (Built p.toList ks i C) := hB
        have HNN : Hid (_ ≠ Value.slice none 0 0) := hnn
        clear hi sr hB hnn hie
        go_wp2_with fail
        go_meet
        have h1 := HNS.out
        have h2 := HBU.out
        rw [HE.out] at h1 h2
        exact ⟨C, h1, h2, HNN.out⟩
  case rest =>
    obtain ⟨C, hs, hB, hnn⟩ := hcut
    obtain ⟨g, cap, rfl⟩ : ∃ g c, u6 = .slice (some ⟨g, 0, none⟩) (posAt p.toList ks ks.length) c := by
      rcases hs.row.2 with ⟨hv, _⟩ | ⟨g, cap, cur, hv, _⟩
      · exact absurd hv hnn
      · exact ⟨g, cap, hv⟩
    have HNS : Hid (NS w.heap.size hb w wc C _ _ _) := hs
    have HBU : Hid (Built p.toList ks ks.length C) := hB
    have fz := hs.free
    have hsz := hB.size
    obtain ⟨v0, d0⟩ := hs.cell 0 (by omega)
    obtain ⟨v33, d33⟩ := hs.cell 33 (by omega)
    clear hs hB hnn s2 hB1
    go_wp2
    go_ret
    have h1 := (HNS.out.store 33 (.slice (some ⟨g, 0, none⟩) (posAt p.toList ks ks.length) cap)).store 0 (.int .u16 (ks.length : Nat))
    refine ⟨hb, g, cap, rfl, ?_, h1.bel⟩
    have hc := blk_cell h1.blk
    have hsz := HBU.out.size
    refine ⟨?_, ?_, ?_, ?_, ?_, ?_, ?_, ?_⟩
    · rw [hc, set_same _ _ _ (by simp; omega)]
    · rw [hc, set_other _ _ _ _ (by omega), set_other _ _ _ _ (by omega)]; exact HBU.out.plen
    · intro j hj; rw [hc, set_other _ _ _ _ (by omega), set_other _ _ _ _ (by omega)]; exact HBU.out.heads j hj
    · rw [hc, set_other _ _ _ _ (by omega), set_same _ _ _ (by omega)]
    · intro j hj; rw [hc, set_other _ _ _ _ (by omega), set_other _ _ _ _ (by omega)]; exact HBU.out.pos j hj
    · intro j hj; rw [hc, set_other _ _ _ _ (by omega), set_other _ _ _ _ (by omega)]; exact HBU.out.tails j hj
    · refine ⟨rfl, fun j hj => ?_⟩
      have h2 := h1.row.cells rfl j (.int .u8 (byte (bufAt p.toList ks ks.length) j : Nat)) (by
        have hj' : j < (bufAt p.toList ks ks.length).length := hj
        simp [Lib.byteCells, byte, List.getD_eq_getElem?_getD, List.getElem?_eq_getElem hj'])
      have hadd : (⟨g, 0, none⟩ : Addr).add j = ⟨g, j, none⟩ := by unfold Addr.add; split <;> simp_all
      rw [hadd] at h2
      exact h2
    · rcases h1.row.2 with ⟨hv, _⟩ | ⟨g', cap', cur, hv, _, _, hle, _⟩
      · simp at hv
      · simp at hv
        omega
end Go.Proofs.Ybulkcmey.B
