/-
  LawS4412AOneStep: the walk.
-/
import Derived.Test.YbulkcmisLawSeq
import Derived.Test.YbulkcmisCopy
namespace Go.Proofs.Ybulkcmis.Bytes
open Go Go.RowKit Go.Proofs.Ybulkcmis.Mem

/-- The counts that the law tries. -/
def cntOf (k : Nat) : Int := [0, 63161283, 126322566, 1, 5, 63161282, 63161284].getD k 0

theorem info5s : (Yba.prog.info? 5).map (·.size) = some 1 := by kernel_rfl

theorem stepAdd (B hb sb g pm at0 : Nat) (W : World) (pre : List UInt8) (hpm : pre.length = pm) (cnt start last fin : Int) (s : Seg) (fresh : Bool) (hf : ((cnt % 63161283) == 0) = fresh) (hc0 : 0 ≤ cnt) (hc1 : cnt ≤ 1000000000)
    (hblk : W.heap[hb]? = some (.cells #[.int .u32 3, .slice (some ⟨g, 0, none⟩) pm pm, .int .i64 (at0 : Nat), .int .i64 cnt, .int .i64 start, .int .i64 last, .int .i64 fin] 31 (0, 0)))
    (hrow : W.ownsRow B 5 1 (.slice (some ⟨g, 0, none⟩) pm pm) pm (Lib.byteCells pre))
    (hseg : W.heap[sb]? = some (.cells #[.int .i64 s.o, .int .i64 s.l, .int .i64 0, .slice s.ha s.hm s.hc, .slice s.sa s.sm s.sc, .slice none 0 0, .slice none 0 0] 34 (0, 0)))
    (hB : B ≤ hb) (hz : B ≤ W.heap.size) (hat : fresh = false → at0 + 5 ≤ pm) (hlim : pm + 5 + 4 + s.hm + s.sm ≤ 1000000000) (hod : BytesAt W s.ha s.hm s.hod) (sec : BytesAt W s.sa s.sm s.sec) (hn : s.ha = none → s.hc = 0) (sn : s.sa = none → s.sc = 0)
    (hl : ∀ ad, s.ha = some ad → 0 < s.hm → ad.block < B) (sl : ∀ ad, s.sa = some ad → 0 < s.sm → ad.block < B) :
    Calls Yba.prog 5 #[.pointer (some ⟨hb, 0, none⟩), .pointer (some ⟨sb, 0, none⟩)] W fun e w' => e = .returned (.tuple #[]) ∧ ∃ g' c',
      w'.heap[hb]? = some (.cells #[.int .u32 3, .slice (some ⟨g', 0, none⟩) (laidOf fresh pre s.l s.hod s.sec).length c', .int .i64 (atOf fresh pre at0 : Nat), .int .i64 (cnt + 1), .int .i64 (startOf cnt s.o start), .int .i64 s.o, .int .i64 (wrap64 (s.o + s.l))] 31 (0, 0)) ∧
      w'.ownsRow B 5 1 (.slice (some ⟨g', 0, none⟩) (laidOf fresh pre s.l s.hod s.sec).length c') (laidOf fresh pre s.l s.hod s.sec).length (Lib.byteCells (putOf (laidOf fresh pre s.l s.hod s.sec) (atOf fresh pre at0))) ∧ Below B W w' := by
  subst hpm
  refine (writerAdd B hb sb W (.int .u32 3) pre g pre.length at0 cnt start last fin s.o s.l _ _ _ s.ha s.sa s.hm s.hc s.sm s.sc s.hod s.sec fresh hf hc0 hc1 ⟨hblk, hrow, hseg, Fr.refl _ _ _, hB, hz⟩ hat hlim hod sec hn sn hl sl).mono ?_
  rintro e w' ⟨rfl, g', c', h⟩
  exact ⟨rfl, g', c', h.blk, h.row, h.fr.bel⟩


/-- The seven counts, in the array's cells. -/
theorem cntCell (w : World) (H k : Nat) (hH : w.heap.size = H) (hk : k < 7) : ∃ cnt : Int, (w.alloc (.cells #[.int .i64 0, .int .i64 63161283, .int .i64 126322566, .int .i64 1, .int .i64 5, .int .i64 63161282, .int .i64 63161284] 42)).cell? ⟨H, k, none⟩ = some (.int .i64 cnt) ∧ 0 ≤ cnt ∧ cnt ≤ 1000000000 ∧ (k < 3 → cnt % 63161283 = 0) := by
  subst hH
  rcases (show k = 0 ∨ k = 1 ∨ k = 2 ∨ k = 3 ∨ k = 4 ∨ k = 5 ∨ k = 6 from by omega) with rfl | rfl | rfl | rfl | rfl | rfl | rfl
  · exact ⟨0, by simp, by omega, by omega, by omega⟩
  · exact ⟨63161283, by simp, by omega, by omega, by omega⟩
  · exact ⟨126322566, by simp, by omega, by omega, by omega⟩
  · exact ⟨1, by simp, by omega, by omega, by omega⟩
  · exact ⟨5, by simp, by omega, by omega, by omega⟩
  · exact ⟨63161282, by simp, by omega, by omega, by omega⟩
  · exact ⟨63161284, by simp, by omega, by omega, by omega⟩

set_option maxHeartbeats 4000000 in
set_option maxRecDepth 100000 in
theorem stepMain (pa : Option Addr) (pm pc : Nat) (pre : List UInt8) (chunk : Nat) (sel : Nat) (start last fin : Int) (s : Seg) (w : World) (hpre : BytesAt w pa pm pre) (hpl : ∀ ad, pa = some ad → 0 < pm → ad.block < w.heap.size) (hq1 : pm ≤ 4096)
    (hck : chunk < 65536) (hsel : sel < 256)
    (hod : BytesAt w s.ha s.hm s.hod) (sec : BytesAt w s.sa s.sm s.sec) (hn : s.ha = none → s.hc = 0) (sn : s.sa = none → s.sc = 0) (hl : ∀ ad, s.ha = some ad → 0 < s.hm → ad.block < w.heap.size) (sl : ∀ ad, s.sa = some ad → 0 < s.sm → ad.block < w.heap.size) (hq2 : s.hm ≤ 1024) (hq3 : s.sm ≤ 1024) :
    Calls Yba.prog 4 #[.slice pa pm pc, .int .u16 (chunk : Nat), .int .u8 (sel : Nat), .int .i64 start, .int .i64 last, .int .i64 fin, .agg #[.int .i64 s.o, .int .i64 s.l, .slice s.ha s.hm s.hc, .slice s.sa s.sm s.sc]] w fun e w' => e = .returned (.bool true) ∧ Below w.heap.size w w' := by
  have hB0 : Below w.heap.size w (w.alloc (.cells #[.int .i64 s.o, .int .i64 s.l, .slice s.ha s.hm s.hc, .slice s.sa s.sm s.sc] 25)) := (Below.refl _ w).alloc (Nat.le_refl _) _
  obtain ⟨i5, hi5, hz50, hz51, hz52⟩ := info_parts info5
  have hd1 : decide ((4096 : Int) < (pm : Int)) = false := by simp; omega
  have hd2 : decide ((1024 : Int) < (s.hm : Int)) = false := by simp; omega
  have hd3 : decide ((1024 : Int) < (s.sm : Int)) = false := by simp; omega
  have HP : Hid (BytesAt w pa pm pre) := hpre
  have HH : Hid (BytesAt w s.ha s.hm s.hod) := hod
  have HC : Hid (BytesAt w s.sa s.sm s.sec) := sec
  clear hpre hod sec
  go_enter Yba.func4, Yba.ntmps4
  go_upto_if 48 with fail
  go_cut [16] (fun iv wx => ∃ k : Nat, iv = .int .i64 (k : Nat) ∧ k < 7 ∧ (pm < 5 → k < 3) ∧ wx = (w.alloc (.cells #[.int .i64 s.o, .int .i64 s.l, .slice s.ha s.hm s.hc, .slice s.sa s.sm s.sc] 25)).alloc (.cells #[.int .i64 0, .int .i64 63161283, .int .i64 126322566, .int .i64 1, .int .i64 5, .int .i64 63161282, .int .i64 63161284] 42))
  case first =>
    go_wp2_with fail
    all_goals go_meet
    · exact ⟨sel % 3, by go_num, by omega, by omega, rfl⟩
    · exact ⟨sel % 7, by go_num, by omega, by omega, rfl⟩
  case rest =>
    obtain ⟨k, rfl, hk7, hk3, hwc⟩ := hcut
    go_upto_region 7 with fail
    go_cut [17] (fun cv wx => ∃ cnt : Int, cv = .int .i64 cnt ∧ 0 ≤ cnt ∧ cnt ≤ 1000000000 ∧ (pm < 5 → cnt % 63161283 = 0) ∧ wx.heap[w.heap.size]? = some (.cells #[.int .i64 s.o, .int .i64 s.l, .slice s.ha s.hm s.hc, .slice s.sa s.sm s.sc] 25 (0, 0)) ∧ Below w.heap.size w wx ∧ w.heap.size + 1 ≤ wx.heap.size)
    case first =>
      clear HP HH HC hpl hl sl
      subst hwc
      have hBa : Below w.heap.size w ((w.alloc (.cells #[.int .i64 s.o, .int .i64 s.l, .slice s.ha s.hm s.hc, .slice s.sa s.sm s.sc] 25)).alloc (.cells #[.int .i64 0, .int .i64 63161283, .int .i64 126322566, .int .i64 1, .int .i64 5, .int .i64 63161282, .int .i64 63161284] 42)) := hB0.alloc (by simp) _
      have hEa : ((w.alloc (.cells #[.int .i64 s.o, .int .i64 s.l, .slice s.ha s.hm s.hc, .slice s.sa s.sm s.sc] 25)).alloc (.cells #[.int .i64 0, .int .i64 63161283, .int .i64 126322566, .int .i64 1, .int .i64 5, .int .i64 63161282, .int .i64 63161284] 42)).heap[w.heap.size]? = some (.cells #[.int .i64 s.o, .int .i64 s.l, .slice s.ha s.hm s.hc, .slice s.sa s.sm s.sc] 25 (0, 0)) := (Below.heap_alloc _ _ _ (by simp)).trans (heap_alloc_new w _)
      have HBa : Hid (Below _ _ _) := hBa
      have HEa : Hid (_ = _) := hEa
      have HZa : Hid (w.heap.size + 1 ≤ _) := (by simp : w.heap.size + 1 ≤ ((w.alloc (.cells #[.int .i64 s.o, .int .i64 s.l, .slice s.ha s.hm s.hc, .slice s.sa s.sm s.sc] 25)).alloc (.cells #[.int .i64 0, .int .i64 63161283, .int .i64 126322566, .int .i64 1, .int .i64 5, .int .i64 63161282, .int .i64 63161284] 42)).heap.size)
      clear hBa hEa hB0
      obtain ⟨cnt, hcc, n0, n1, n3⟩ := cntCell (w.alloc (.cells #[.int .i64 s.o, .int .i64 s.l, .slice s.ha s.hm s.hc, .slice s.sa s.sm s.sc] 25)) (w.heap.size + 1) k (by simp) hk7
      generalize ((w.alloc (.cells #[.int .i64 s.o, .int .i64 s.l, .slice s.ha s.hm s.hc, .slice s.sa s.sm s.sc] 25)).alloc (.cells #[.int .i64 0, .int .i64 63161283, .int .i64 126322566, .int .i64 1, .int .i64 5, .int .i64 63161282, .int .i64 63161284] 42)) = W0 at *
      go_wp2_with fail
      go_meet
      exact ⟨cnt, rfl, n0, n1, fun h => n3 (hk3 h), HEa.out, HBa.out, HZa.out⟩
    case rest =>
      obtain ⟨cnt, rfl, hc0, hc1, hc5, hE, hB1, hz1⟩ := hcut
      clear hwc hk7 hk3 hB0
      rename World => W1
      obtain ⟨fresh, hf⟩ : ∃ fresh, ((cnt % 63161283) == 0) = fresh := ⟨_, rfl⟩
      have hp5 : fresh = false → 5 ≤ pm := by
        intro h
        rw [h] at hf
        rw [beq_eq_false_iff_ne] at hf
        by_cases h5 : pm < 5
        · exact absurd (hc5 h5) hf
        · omega
      go_upto_if 59 with fail
      go_cut [19] (fun av wx => ∃ at0 : Nat, av = .int .i64 (at0 : Nat) ∧ (fresh = false → at0 + 5 ≤ pm) ∧ wx.heap[w.heap.size]? = some (.cells #[.int .i64 s.o, .int .i64 s.l, .slice s.ha s.hm s.hc, .slice s.sa s.sm s.sc] 25 (0, 0)) ∧ Below w.heap.size w wx ∧ w.heap.size + 1 ≤ wx.heap.size)
      case first =>
        cases fresh with
        | true =>
          go_wp2_with fail
          go_meet
          exact ⟨0, rfl, by simp, hE, hB1, hz1⟩
        | false =>
          have h5 := hp5 rfl
          have y1 : IntKind.i64.wrap ((pm : Int) - 4) = (pm : Int) - 4 := IntWalk.i64_in _ (by omega)
          have y2 : ((chunk % (pm - 4) : Nat) : Int) = (chunk : Int) % ((pm : Int) - 4) := by
            rw [Int.natCast_emod]; congr 1; omega
          have y3 : chunk % (pm - 4) < pm - 4 := Nat.mod_lt _ (by omega)
          go_wp2_with fail
          go_meet
          exact ⟨chunk % (pm - 4), by rw [y2], fun _ => by omega, hE, hB1, hz1⟩
      case rest =>
        clear hE hB1 hz1
        obtain ⟨at0, rfl, hat, hE, hB1, hz1⟩ := hcut
        rename World => W2
        clear hc5 hp5
        go_wp2_with (at_make; refine wpList_make_full _ rfl _ _ 23 rfl W2.heap.size 5 i5 (.int .u8 0) 1 Yba.underlying23 hi5 hz50 hz51 .i64 .i64 _ _ pm rfl rfl rfl rfl ?m1 ?m2 (Nat.le_refl _) ?_)
        case m1 => rw [hz52]; omega
        case m2 => unfold maxLen; omega
        intro w1 ho1 hg1
        have b1 : Below W2.heap.size W2 w1 := (Below.refl _ W2).grown hg1 (Nat.le_refl _) (by simp)
        have HP1 : BytesAt w1 pa pm pre := HP.out.below' (Below.refl w.heap.size w) hpl (hB1.trans (b1.mono (by omega)))
        clear hg1
        go_upto_region 13 with fail
        go_wp2_with (refine wpList_copy_full rfl (.tmp 69) (.tmp 70) 23 rfl Yba.underlying23 info5s W2.heap.size W2.heap.size pm _ pa pc pre rfl rfl ho1 HP1 ?_)
        intro w2 ho2 hg2
        have b2 : Below W2.heap.size W2 w2 := b1.grown hg2 b1.size (fun k hk => by simp at hk; omega)
        have hE2 : w2.heap[w.heap.size]? = _ := (b2.block _ (by omega)).trans hE
        have c0 : w2.cell? ⟨w.heap.size, 0, none⟩ = some (.int .i64 s.o) := by simp [World.cell?, hE2]
        have c1 : w2.cell? ⟨w.heap.size, 1, none⟩ = some (.int .i64 s.l) := by simp [World.cell?, hE2]
        have c2 : w2.cell? ⟨w.heap.size, 2, none⟩ = some (.slice s.ha s.hm s.hc) := by simp [World.cell?, hE2]
        have c3 : w2.cell? ⟨w.heap.size, 3, none⟩ = some (.slice s.sa s.sm s.sc) := by simp [World.cell?, hE2]
        have q0 := alloc_cell c0
        have q1 := alloc_cell c1
        have q2 := alloc_cell c2
        have q3 := alloc_cell c3
        have hz2 : W2.heap.size ≤ w2.heap.size := b2.size
        have hBW : Below w.heap.size w w2 := hB1.trans (b2.mono (by omega))
        clear ho1 HP1 b1 hg2 hE
        go_wp2_with fail
        refine (stepAdd W2.heap.size w2.heap.size (w2.heap.size + 1) W2.heap.size pm at0 _ pre HP.out.1 cnt start last fin s fresh hf hc0 hc1 ?blk ?row ?seg hz2 ?sz hat ?lim ?hod ?sec hn sn ?hl ?sl).mono ?_
        case blk => exact (Below.heap_alloc _ _ _ (by simp)).trans (heap_alloc_new w2 _)
        case row => exact (ho2.alloc _).alloc _
        case seg =>
          have e := heap_alloc_new (w2.alloc (.cells #[.int .u32 3, .slice (some ⟨W2.heap.size, 0, none⟩) pm pm, .int .i64 (at0 : Nat), .int .i64 cnt, .int .i64 start, .int .i64 last, .int .i64 fin] 31)) (.cells #[.int .i64 s.o, .int .i64 s.l, .int .i64 0, .slice s.ha s.hm s.hc, .slice s.sa s.sm s.sc, .slice none 0 0, .slice none 0 0] 34)
          have e2 : (w2.alloc (.cells #[.int .u32 3, .slice (some ⟨W2.heap.size, 0, none⟩) pm pm, .int .i64 (at0 : Nat), .int .i64 cnt, .int .i64 start, .int .i64 last, .int .i64 fin] 31)).heap.size = w2.heap.size + 1 := by simp
          rw [e2] at e
          exact e
        case sz => simp; omega
        case lim => omega
        case hod => exact HH.out.below' (Below.refl w.heap.size w) hl ((hBW.alloc (by omega) _).alloc (by simp; omega) _)
        case sec => exact HC.out.below' (Below.refl w.heap.size w) sl ((hBW.alloc (by omega) _).alloc (by simp; omega) _)
        case hl => exact fun ad e h => Nat.lt_of_lt_of_le (hl ad e h) (by omega)
        case sl => exact fun ad e h => Nat.lt_of_lt_of_le (sl ad e h) (by omega)
        rintro e w3 ⟨rfl, g', c', hblk3, hrow3, hbel3⟩
        have b3 : Below W2.heap.size W2 w3 := ((b2.alloc hz2 _).alloc (by simp; omega) _).trans hbel3
        have hB3 : Below w.heap.size w w3 := hB1.trans (b3.mono (by omega))
        have hE3 : w3.heap[w.heap.size]? = _ := (b3.block _ (by omega)).trans ((b2.block _ (by omega)).symm.trans hE2)
        have hbl : w2.heap.size < w3.heap.size := (Array.getElem?_eq_some_iff.1 hblk3).1
        have hgl : g' < w3.heap.size := (hrow3.lt g' rfl).2
        have hz3 : W2.heap.size ≤ w3.heap.size := b3.size
        clear hbel3 b3 b2 hBW hE2 c0 c1 c2 c3 q0 q1 q2 q3 ho2 hB1 hf
        go_wp2_with (at_make; refine wpList_make_full _ rfl _ _ 23 rfl w3.heap.size 5 i5 (.int .u8 0) 1 Yba.underlying23 hi5 hz50 hz51 .i64 .i64 _ _ pm rfl rfl rfl rfl ?m1 ?m2 (Nat.le_refl _) ?_)
        case m1 => rw [hz52]; omega
        case m2 => unfold maxLen; omega
        intro w4 ho4 hg4
        have b4 : Below w3.heap.size w3 w4 := (Below.refl _ w3).grown hg4 (Nat.le_refl _) (by simp)
        have HP4 : BytesAt w4 pa pm pre := HP.out.below' (Below.refl w.heap.size w) hpl (hB3.trans (b4.mono (by omega)))
        clear hg4
        go_upto_region 18 with fail
        go_wp2_with (refine wpList_copy_full rfl (.tmp 95) (.tmp 96) 23 rfl Yba.underlying23 info5s w3.heap.size w3.heap.size pm _ pa pc pre rfl rfl ho4 HP4 ?_)
        intro w5 ho5 hg5
        have b5 : Below w3.heap.size w3 w5 := b4.grown hg5 b4.size (fun k hk => by simp at hk; omega)
        have hz5 : w3.heap.size ≤ w5.heap.size := b5.size
        clear ho4 hg5 b4 HP4
        have hpl' : pre.length = pm := HP.out.1
        go_upto_if 99 with fail
        go_cut [23, 24] (fun ev av wx => av = .int .i64 (atOf fresh pre at0 : Nat) ∧ wx.ownsRow w3.heap.size 5 1 ev (openOf fresh pre).length (Lib.byteCells (openOf fresh pre)) ∧ Below w3.heap.size w3 wx)
        case first =>
          clear hblk3 hrow3 hE3 hB3
          cases fresh with
          | false =>
            go_wp2_with fail
            go_meet
            refine ⟨by simp [atOf], ?_, b5⟩
            have e : openOf false pre = pre := rfl
            rw [e, hpl']
            exact ho5
          | true =>
            have s5a := ho5.alloc (.cells #[.int .u8 0, .int .u8 0, .int .u8 0, .int .u8 0, .int .u8 0] 5)
            go_wp2_with (at_builtin; refine wpList_append_own _ rfl (.tmp 102) (.tmp 103) 23 rfl w3.heap.size 5 i5 (.int .u8 0) 1 1 Yba.underlying23 hi5 hz50 hz51 hz52 rfl (by decide) _ _ _ rfl s5a _ 5 5 [.int .u8 0, .int .u8 0, .int .u8 0, .int .u8 0, .int .u8 0] rfl rfl (new5 _ _ _ rfl) one5 ?d1 ?d2 ?d3 ?_)
            case d1 => unfold maxLen; omega
            case d2 => omega
            case d3 => simp; omega
            intro v6 w6 ho6 hg6 _
            have f6 : Below w3.heap.size w3 w6 := (b5.alloc hz5 _).grown hg6 (by simp; omega) (fun k hk => (s5a.lt k hk).1)
            go_wp2_with fail
            go_meet
            refine ⟨by simp [atOf, hpl'], ?_, f6⟩
            have e : (openOf true pre).length = pm + 5 := by simp [openOf, hpl']
            rw [e]
            simpa [openOf, Lib.byteCells] using ho6
        case rest =>
          clear ho5 b5 hz5
          obtain ⟨rfl, ho6, b6⟩ := hcut
          rename World => W6
          have hz6 : w3.heap.size ≤ W6.heap.size := b6.size
          have hE6 : W6.heap[w.heap.size]? = _ := (b6.block _ (by omega)).trans hE3
          have hB6 : Below w.heap.size w W6 := hB3.trans (b6.mono (by omega))
          have c0 : W6.cell? ⟨w.heap.size, 0, none⟩ = some (.int .i64 s.o) := by simp [World.cell?, hE6]
          have c1 : W6.cell? ⟨w.heap.size, 1, none⟩ = some (.int .i64 s.l) := by simp [World.cell?, hE6]
          have c2 : W6.cell? ⟨w.heap.size, 2, none⟩ = some (.slice s.ha s.hm s.hc) := by simp [World.cell?, hE6]
          have c3 : W6.cell? ⟨w.heap.size, 3, none⟩ = some (.slice s.sa s.sm s.sc) := by simp [World.cell?, hE6]
          have hol : (openOf fresh pre).length ≤ pm + 5 := by cases fresh <;> simp [openOf, hpl']
          have hat1 : atOf fresh pre at0 + 5 ≤ (openOf fresh pre).length := open_at (by rw [hpl']; exact hat)
          have HH6 : Hid (BytesAt W6 s.ha s.hm s.hod) := HH.out.below' (Below.refl w.heap.size w) hl hB6
          have HC6 : Hid (BytesAt W6 s.sa s.sm s.sec) := HC.out.below' (Below.refl w.heap.size w) sl hB6
          have hll := laidOf_length fresh pre s.l s.hod s.sec
          rw [HH.out.1, HC.out.1] at hll
          go_wp2_with fail
          refine (desc w3.heap.size _ _ _ s.o s.l s.ha s.sa s.hm s.hc s.sm s.sc s.hod s.sec W6 ho6 hz6 HH6.out HC6.out hn sn (fun ad e h => Nat.lt_of_lt_of_le (hl ad e h) (by omega)) (fun ad e h => Nat.lt_of_lt_of_le (sl ad e h) (by omega)) (by omega)).mono ?_
          rintro e w7 ⟨v7, rfl, ho7, b7⟩
          have hcat : Lib.byteCells (openOf fresh pre) ++ Lib.byteCells (Lib.beBytes 4 (low32 s.l)) ++ Lib.byteCells s.hod ++ Lib.byteCells s.sec = Lib.byteCells (laidOf fresh pre s.l s.hod s.sec) := by simp [laidOf, Lib.byteCells]
          rw [hcat, ← hll] at ho7
          have b67 := b6.trans b7
          have hblk7 : w7.heap[w2.heap.size]? = _ := (b67.block _ hbl).trans hblk3
          have hrow7 := row_below hrow3 b67 hgl
          have hE7 : w7.heap[w.heap.size]? = _ := (b67.block _ (by omega)).trans hE3
          have hB7 : Below w.heap.size w w7 := hB3.trans (b67.mono (by omega))
          have hz7 : w3.heap.size ≤ w7.heap.size := b67.size
          clear hcat b6 b7 b67 hblk3 hrow3 hE3 hB3 hE6 hB6 HH6 HC6 c0 c1 c2 c3 ho6 hz6
          obtain ⟨LL, hLL⟩ : ∃ LL, laidOf fresh pre s.l s.hod s.sec = LL := ⟨_, rfl⟩
          obtain ⟨at1, hA⟩ : ∃ at1, atOf fresh pre at0 = at1 := ⟨_, rfl⟩
          rw [hLL] at ho7 hblk7 hrow7 hll
          rw [hA] at hblk7 hrow7 hat1
          have hlm : LL.length ≤ 100000 := by omega
          have hat2 : at1 + 5 ≤ LL.length := by omega
          obtain ⟨gl, cl, rfl⟩ := Mem.shape ho7 (by omega)
          clear hLL hat1 hll hol hat
          have hA2 : ((atOf fresh pre at0 : Nat) : Int) = (at1 : Int) := by rw [hA]
          clear hA
          obtain ⟨lv, hlv⟩ : ∃ lv : Nat, LL.length = at1 + 5 + lv := ⟨LL.length - at1 - 5, by omega⟩
          go_upto_region 24 with fail
          go_cut [25] (fun nv wx => nv = .int .u32 (lv : Nat) ∧ wx = w7)
          case first =>
            clear hblk7 hrow7 hE7 hB7 ho7
            go_wp2_with fail
            go_meet
            refine ⟨?_, rfl⟩
            congr 1
            omega
          case rest =>
            obtain ⟨rfl, rfl⟩ := hcut
            have hlt : at1 + 5 + lv ≤ 100000 := by omega
            have hl32 : lv < 4294967296 := by omega
            have cell : ∀ k, k < at1 + 5 + lv → ∃ u, wc.cell? ⟨gl, k, none⟩ = some u := fun k hk => by
              rw [ho7.cellAt k (by omega)]
              exact ⟨_, List.getElem?_eq_getElem (by rw [Lib.byteCells_length]; omega)⟩
            obtain ⟨u0, c0⟩ := cell (at1 + 1) (by omega)
            obtain ⟨u1, c1⟩ := cell (at1 + 2) (by omega)
            obtain ⟨u2, c2⟩ := cell (at1 + 3) (by omega)
            obtain ⟨u3, c3⟩ := cell (at1 + 4) (by omega)
            have fz := ho7.frozenAt
            have s0 := (ho7.stored (at1 + 1) (Value.int .u8 ((lv : Int) / 16777216)))
            have s1 := (s0.1.stored (at1 + 1 + 1) (Value.int .u8 ((lv : Int) / 65536 % 256)))
            have s2 := (s1.1.stored (at1 + 1 + 2) (Value.int .u8 ((lv : Int) / 256 % 256)))
            have s3 := (s2.1.stored (at1 + 1 + 3) (Value.int .u8 ((lv : Int) % 256)))
            have hfin := s3.1
            rw [set4 LL (at1 + 1) lv (by omega) hl32] at hfin
            have hgr := grown_trans (grown_trans (grown_trans s0.2 s1.2) s2.2) s3.2
            have e1 : (lv : Int) / 65536 % 256 = (lv : Int) / 65536 := by omega
            rw [e1] at hfin hgr
            simp only [Nat.add_assoc, Nat.reduceAdd] at hfin hgr
            have HF : Hid (World.ownsRow _ _ _ _ _ _ _) := hfin
            have HG : Hid (World.grownBy _ _ _) := hgr
            clear s0 s1 s2 s3 hfin hgr cell e1
            go_upto_region 29 with fail
            generalize ((((wc.setCell ⟨gl, at1 + 1, none⟩ (.int .u8 ((lv : Int) / 16777216))).setCell ⟨gl, at1 + 2, none⟩ (.int .u8 ((lv : Int) / 65536))).setCell ⟨gl, at1 + 3, none⟩ (.int .u8 ((lv : Int) / 256 % 256))).setCell ⟨gl, at1 + 4, none⟩ (.int .u8 ((lv : Int) % 256))) = W9 at HF HG ⊢
            have hgB : w3.heap.size ≤ gl := (ho7.lt gl rfl).1
            have b9 : Below w3.heap.size wc W9 := (Below.refl _ wc).grown HG.out hz7 (fun k hk => by simp at hk; omega)
            have hblk9 : W9.heap[w2.heap.size]? = _ := (b9.block _ hbl).trans hblk7
            have hrow9 := row_below hrow7 b9 hgl
            have hE9 : W9.heap[w.heap.size]? = _ := (b9.block _ (by omega)).trans hE7
            have hB9 : Below w.heap.size w W9 := hB7.trans (b9.mono (by omega))
            have hlow : low32 ((LL.length : Int) - (at1 : Int) - 5) = lv := by unfold low32; omega
            have hput : putOf LL at1 = LL.take (at1 + 1) ++ Lib.beBytes 4 lv ++ LL.drop (at1 + 1 + 4) := by rw [putOf, hlow]
            have hpl2 : (putOf LL at1).length = LL.length := putOf_length LL at1 (by omega)
            have HF2 : Hid (W9.ownsRow w3.heap.size 5 1 (.slice (some ⟨gl, 0, none⟩) LL.length cl) LL.length (Lib.byteCells (putOf LL at1))) := by
              rw [hput]
              exact HF.out
            have k0 : W9.cell? ⟨w2.heap.size, 0, none⟩ = some (.int .u32 3) := by simp [World.cell?, hblk9]
            have k1 : W9.cell? ⟨w2.heap.size, 1, none⟩ = some (.slice (some ⟨g', 0, none⟩) LL.length c') := by simp [World.cell?, hblk9]
            have k2 : W9.cell? ⟨w2.heap.size, 2, none⟩ = some (.int .i64 (at1 : Nat)) := by simp [World.cell?, hblk9]
            have k3 : W9.cell? ⟨w2.heap.size, 3, none⟩ = some (.int .i64 (cnt + 1)) := by simp [World.cell?, hblk9]
            have k4 : W9.cell? ⟨w2.heap.size, 4, none⟩ = some (.int .i64 (startOf cnt s.o start)) := by simp [World.cell?, hblk9]
            have k5 : W9.cell? ⟨w2.heap.size, 5, none⟩ = some (.int .i64 s.o) := by simp [World.cell?, hblk9]
            have k6 : W9.cell? ⟨w2.heap.size, 6, none⟩ = some (.int .i64 (wrap64 (s.o + s.l))) := by simp [World.cell?, hblk9]
            have p0 : W9.cell? ⟨w.heap.size, 0, none⟩ = some (.int .i64 s.o) := by simp [World.cell?, hE9]
            have p1 : W9.cell? ⟨w.heap.size, 1, none⟩ = some (.int .i64 s.l) := by simp [World.cell?, hE9]
            have HR : Hid (World.ownsRow _ _ _ _ _ _ _) := hrow9
            clear HF HG b9 hblk9 hblk7 hrow7 hrow9 hE7 hE9 hB7 hlow hput ho7 fz c0 c1 c2 c3
            rw [hlv] at k1
            go_wp2_with fail
            refine (eqSame g' (at1 + 5 + lv) c' gl cl (putOf LL at1) W9 (by omega) (by omega) (fun j u hj => row_cell HR.out hj) (fun j u hj => row_cell HF2.out hj)).mono ?_
            rintro e w8 ⟨rfl, m8, rfl⟩
            clear k1 HR HF2
            have xx : ((at1 : Int) != (at1 : Int)) = false := by simp
            by_cases hz : cnt = 0
            · subst hz
              have es : startOf 0 s.o start = s.o := by simp [startOf]
              rw [es] at k4
              go_wp2_with fail
              go_quiet (fail)
              go_wp2
              go_ret
              exact ⟨rfl, hB9.trans ⟨rfl, rfl, rfl, Nat.le_refl _, fun _ _ => rfl⟩⟩
            · have es : startOf cnt s.o start = start := by simp [startOf, hz]
              have hz' : (cnt == 0) = false := by simp [hz]
              rw [es] at k4
              clear hz es
              go_wp2_with fail
              go_quiet (fail)
              go_wp2
              go_ret
              exact ⟨rfl, hB9.trans ⟨rfl, rfl, rfl, Nat.le_refl _, fun _ _ => rfl⟩⟩

set_option maxHeartbeats 4000000 in
set_option maxRecDepth 100000 in
theorem lawStep (pa : Option Addr) (pm pc : Nat) (pre : List UInt8) (chunk : Nat) (sel : Nat) (start last fin : Int) (s : Seg) (w : World) (hpre : BytesAt w pa pm pre) (hpl : ∀ ad, pa = some ad → 0 < pm → ad.block < w.heap.size) (hpx : pm ≤ 9223372036854775807)
    (hck : chunk < 65536) (hsel : sel < 256)
    (hod : BytesAt w s.ha s.hm s.hod) (sec : BytesAt w s.sa s.sm s.sec) (hn : s.ha = none → s.hc = 0) (sn : s.sa = none → s.sc = 0) (hl : ∀ ad, s.ha = some ad → 0 < s.hm → ad.block < w.heap.size) (sl : ∀ ad, s.sa = some ad → 0 < s.sm → ad.block < w.heap.size) (hx : s.hm ≤ 9223372036854775807) (sx : s.sm ≤ 9223372036854775807) :
    Calls Yba.prog 4 #[.slice pa pm pc, .int .u16 (chunk : Nat), .int .u8 (sel : Nat), .int .i64 start, .int .i64 last, .int .i64 fin, .agg #[.int .i64 s.o, .int .i64 s.l, .slice s.ha s.hm s.hc, .slice s.sa s.sm s.sc]] w fun e w' => e = .returned (.bool true) ∧ Below w.heap.size w w' := by
  have hB0 : Below w.heap.size w (w.alloc (.cells #[.int .i64 s.o, .int .i64 s.l, .slice s.ha s.hm s.hc, .slice s.sa s.sm s.sc] 25)) := (Below.refl _ w).alloc (Nat.le_refl _) _
  by_cases hb1 : (4096 : Int) < (pm : Int)
  · go_enter Yba.func4, Yba.ntmps4
    go_wp2
    go_ret
    exact ⟨rfl, hB0⟩
  · by_cases hb2 : (1024 : Int) < (s.hm : Int)
    · go_enter Yba.func4, Yba.ntmps4
      go_wp2
      go_ret
      exact ⟨rfl, hB0⟩
    · by_cases hb3 : (1024 : Int) < (s.sm : Int)
      · go_enter Yba.func4, Yba.ntmps4
        go_wp2
        go_ret
        exact ⟨rfl, hB0⟩
      · exact stepMain pa pm pc pre chunk sel start last fin s w hpre hpl (by omega) hck hsel hod sec hn sn hl sl (by omega) (by omega)
end Go.Proofs.Ybulkcmis.Bytes
