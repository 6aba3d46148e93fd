/-
  LawS4412ASequence: the walk.
-/
import Derived.Test.YbulkcmisPlain
namespace Go.Proofs.Ybulkcmis.Bytes
open Go Go.RowKit Go.Proofs.Ybulkcmis.Mem

/-- The argument's cells and what lies behind them. -/
structure LiesAt (w : World) (b off : Nat) (s : Seg) (i : Nat) : Prop where
  c0 : w.cell? ⟨b, off + i * 4, none⟩ = some (.int .i64 s.o)
  c1 : w.cell? ⟨b, off + i * 4 + 1, none⟩ = some (.int .i64 s.l)
  c2 : w.cell? ⟨b, off + i * 4 + 2, none⟩ = some (.slice s.ha s.hm s.hc)
  c3 : w.cell? ⟨b, off + i * 4 + 3, none⟩ = some (.slice s.sa s.sm s.sc)
  hod : BytesAt w s.ha s.hm s.hod
  sec : BytesAt w s.sa s.sm s.sec
  hn : s.ha = none → s.hc = 0
  sn : s.sa = none → s.sc = 0
  hl : ∀ ad, s.ha = some ad → 0 < s.hm → ad.block < w.heap.size
  sl : ∀ ad, s.sa = some ad → 0 < s.sm → ad.block < w.heap.size
  hx : s.hm ≤ 9223372036854775807
  sx : s.sm ≤ 9223372036854775807

theorem seqStep (w W : World) (hb sb g c b off : Nat) (ss : List Seg) (i : Nat) (hlt : i < ss.length) (hle : ss.length ≤ 300) (hsm : ∀ s ∈ ss, s.hod.length ≤ 1024 ∧ s.sec.length ≤ 1024)
    (hblk : W.heap[hb]? = some (.cells #[.int .u32 7, .slice (some ⟨g, 0, none⟩) (bytesAt ss i).length c, .int .i64 (chunkAt i : Nat), .int .i64 (i : Nat), .int .i64 (stAt ss i), .int .i64 (lsAt ss i), .int .i64 (enAt ss i)] 31 (0, 0)))
    (hrow : W.ownsRow w.heap.size 5 1 (.slice (some ⟨g, 0, none⟩) (bytesAt ss i).length c) (bytesAt ss i).length (Lib.byteCells (bytesAt ss i)))
    (hseg : W.heap[sb]? = some (.cells #[.int .i64 ss[i].o, .int .i64 ss[i].l, .int .i64 0, .slice ss[i].ha ss[i].hm ss[i].hc, .slice ss[i].sa ss[i].sm ss[i].sc, .slice none 0 0, .slice none 0 0] 34 (0, 0)))
    (hB : w.heap.size ≤ hb) (hL : LiesAt w b off ss[i] i) (hbel : Below w.heap.size w W) :
    Calls Yba.prog 5 #[.pointer (some ⟨hb, 0, none⟩), .pointer (some ⟨sb, 0, none⟩)] W fun e w' => e = .returned (.tuple #[]) ∧ ∃ g' c',
      w'.heap[hb]? = some (.cells #[.int .u32 7, .slice (some ⟨g', 0, none⟩) (bytesAt ss (i + 1)).length c', .int .i64 (chunkAt (i + 1) : Nat), .int .i64 ((i + 1 : Nat) : Int), .int .i64 (stAt ss (i + 1)), .int .i64 (lsAt ss (i + 1)), .int .i64 (enAt ss (i + 1))] 31 (0, 0)) ∧
      w'.ownsRow w.heap.size 5 1 (.slice (some ⟨g', 0, none⟩) (bytesAt ss (i + 1)).length c') (bytesAt ss (i + 1)).length (Lib.byteCells (bytesAt ss (i + 1))) ∧ Below w.heap.size w w' := by
  have hz : w.heap.size ≤ W.heap.size := hbel.size
  have hbl := bytes_le hsm i
  have hm1 : ss[i].hm ≤ 1024 := by rw [← hL.hod.1]; exact (hsm _ (List.getElem_mem hlt)).1
  have hm2 : ss[i].sm ≤ 1024 := by rw [← hL.sec.1]; exact (hsm _ (List.getElem_mem hlt)).2
  have hst := st_step hlt
  have hh := hL.hod.below' (Below.refl w.heap.size w) hL.hl hbel
  have hs := hL.sec.below' (Below.refl w.heap.size w) hL.sl hbel
  by_cases hi0 : i = 0
  · subst hi0
    obtain ⟨e1, e2, e3⟩ := bytes_first ss hlt
    refine (writerAdd w.heap.size hb sb W (.int .u32 7) (bytesAt ss 0) g c (chunkAt 0) ((0 : Nat) : Int) (stAt ss 0) (lsAt ss 0) (enAt ss 0) ss[0].o ss[0].l _ _ _ ss[0].ha ss[0].sa ss[0].hm ss[0].hc ss[0].sm ss[0].sc ss[0].hod ss[0].sec true (by decide) (by omega) (by omega)
      ⟨hblk, hrow, hseg, Fr.refl _ _ _, hB, hz⟩ (by simp) (by omega) hh hs hL.hn hL.sn hL.hl hL.sl).mono ?_
    rintro e w' ⟨rfl, g', c', h⟩
    rw [e1, e2, e3] at h
    refine ⟨rfl, g', c', ?_, h.row, hbel.trans h.fr.bel⟩
    rw [h.blk, hst.1, ← hst.2.1, ← hst.2.2]
    rfl
  · have hf : (((i : Nat) : Int) % 63161283 == 0) = false := by
      rw [beq_eq_false_iff_ne]
      omega
    obtain ⟨e1, e2, e3⟩ := bytes_next ss (by omega) hlt
    refine (writerAdd w.heap.size hb sb W (.int .u32 7) (bytesAt ss i) g c (chunkAt i) ((i : Nat) : Int) (stAt ss i) (lsAt ss i) (enAt ss i) ss[i].o ss[i].l _ _ _ ss[i].ha ss[i].sa ss[i].hm ss[i].hc ss[i].sm ss[i].sc ss[i].hod ss[i].sec false hf (by omega) (by omega)
      ⟨hblk, hrow, hseg, Fr.refl _ _ _, hB, hz⟩ (fun _ => by have := hbl.2.2 (by omega); simp [chunkAt, hi0]; omega) (by omega) hh hs hL.hn hL.sn hL.hl hL.sl).mono ?_
    rintro e w' ⟨rfl, g', c', h⟩
    rw [e1, e2, e3] at h
    refine ⟨rfl, g', c', ?_, h.row, hbel.trans h.fr.bel⟩
    rw [h.blk, hst.1, ← hst.2.1, ← hst.2.2]
    simp

theorem row_below {w w' : World} {B M : Nat} {e : TypeId} {g n c : Nat} {xs : List Value} (h : w.ownsRow B e 1 (.slice (some ⟨g, 0, none⟩) n c) n xs) (hb : Below M w w') (hg : g < M) : w'.ownsRow B e 1 (.slice (some ⟨g, 0, none⟩) n c) n xs := by
  refine ⟨h.1, ?_⟩
  rcases h.2 with hn | ⟨g', c', cur, hv, hbg, hgg, rest⟩
  · exact .inl hn
  · simp at hv
    obtain ⟨rfl, rfl⟩ := hv
    exact .inr ⟨g, c, cur, rfl, hbg, (hb.block _ hg).trans hgg, rest⟩

theorem new1 (w : World) (v : Value) (t : TypeId) : ∀ j u, [v][j]? = some u → (w.alloc (.cells #[v] t)).cell? ((⟨w.heap.size, 0, none⟩ : Addr).add j) = some u := by
  intro j u hj
  match j, hj with
  | 0, hj => simp at hj; subst hj; simp [Addr.add]
theorem one1 : ∀ u ∈ [Value.int .u8 0], u.oneCell' = true := by
  intro u hu; simp at hu; subst hu; rfl

theorem alloc_cell {w : World} {a : Addr} {v : Value} (h : w.cell? a = some v) (o : Obj) : (w.alloc o).cell? a = some v :=
  (((Below.refl _ w).alloc (Nat.le_refl _) o).cell (World.block_lt_of_cell? w _ h)).trans h

theorem made_one (z : Value) (n : Nat) : (madeCells #[z] n).toList = List.replicate n z := by
  apply List.ext_getElem
  · simp [madeCells]
  · intro k h1 h2
    simp [madeCells, Nat.mod_one]
theorem zeros31 : (madeCells #[Value.int .u8 0] 31).toList = Lib.byteCells room := by
  rw [made_one]
  simp only [Lib.byteCells, room, List.map_replicate]
  rfl

set_option maxHeartbeats 4000000 in
set_option maxRecDepth 100000 in
theorem lawSeq (a0 : Option Addr) (cap b off : Nat) (ss : List Seg) (w : World) (hs : 0 < ss.length → a0 = some ⟨b, off, none⟩) (hlie : ∀ i (h : i < ss.length), LiesAt w b off ss[i] i) (hbw : 0 < ss.length → b < w.heap.size) (hrl : ss.length ≤ maxLen) :
    Calls Yba.prog 3 #[.slice a0 ss.length cap] w fun e w' => e = .returned (.bool true) ∧ Below w.heap.size w w' := by
  unfold maxLen at hrl
  by_cases hbig : 300 < ss.length
  · go_enter Yba.func3, Yba.ntmps3
    go_wp2
    go_ret
    exact ⟨rfl, Below.refl _ _⟩
  · obtain ⟨i5, hi5, hz50, hz51, hz52⟩ := info_parts info5
    have HL : Hid (∀ i (h : i < ss.length), LiesAt w b off ss[i] i) := hlie
    have HS : Hid (0 < ss.length → a0 = some ⟨b, off, none⟩) := hs
    have HW : Hid (0 < ss.length → b < w.heap.size) := hbw
    clear hlie hs hbw
    have hd : decide ((300 : Int) < (ss.length : Int)) = false := by simp; omega
    have hle : ss.length ≤ 300 := by omega
    clear hbig
    go_enter Yba.func3, Yba.ntmps3
    go_wp2
    go_loop [3] (fun iv => ∃ i : Nat, i ≤ ss.length ∧ iv = .int .i64 (i : Nat) ∧ ∀ j (h : j < ss.length), j < i → ss[j].hm ≤ 1024 ∧ ss[j].sm ≤ 1024) (fun iv => ss.length - (intOf iv).toNat)
    case atStart => exact ⟨0, by omega, rfl, fun _ _ h => absurd h (Nat.not_lt_zero _)⟩
    case round =>
      obtain ⟨i, hi, rfl, hall⟩ := hrel
      have HA : Hid (∀ j (h : j < ss.length), j < i → ss[j].hm ≤ 1024 ∧ ss[j].sm ≤ 1024) := hall
      clear hall
      by_cases hlt : i < ss.length
      · have e0 := HS.out (by omega)
        subst e0
        have c2 := (HL.out i hlt).c2
        have c3 := (HL.out i hlt).c3
        have hx := (HL.out i hlt).hx
        have sx := (HL.out i hlt).sx
        by_cases h1 : (1024 : Int) < (ss[i].hm : Int)
        · go_wp2
          go_ret
          exact ⟨rfl, Below.refl _ _⟩
        · by_cases h2 : (1024 : Int) < (ss[i].sm : Int)
          · go_wp2
            go_ret
            exact ⟨rfl, Below.refl _ _⟩
          · go_wp2
            go_round
            case measure => simp [intOf]; omega
            case rel =>
              refine ⟨i + 1, by omega, by go_num, fun j hj hji => ?_⟩
              by_cases e : j = i
              · subst e; omega
              · exact HA.out j hj (by omega)
      · have hin : i = ss.length := by omega
        have hsm : ∀ s ∈ ss, s.hm ≤ 1024 ∧ s.sm ≤ 1024 := by
          intro s hs
          obtain ⟨j, hj, rfl⟩ := List.getElem_of_mem hs
          exact HA.out j hj (by omega)
        have hsm2 : Hid (∀ s ∈ ss, s.hod.length ≤ 1024 ∧ s.sec.length ≤ 1024) := by
          intro s hs
          have h := hsm s hs
          obtain ⟨j, hj, rfl⟩ := List.getElem_of_mem hs
          rw [(HL.out j hj).hod.1, (HL.out j hj).sec.1]
          exact h
        have HSM : Hid (∀ s ∈ ss, s.hm ≤ 1024 ∧ s.sm ≤ 1024) := hsm
        clear hsm HA
        go_wp2_with (at_make; refine wpList_make_full _ rfl _ _ 23 rfl w.heap.size 5 i5 (.int .u8 0) 1 Yba.underlying23 hi5 hz50 hz51 .i64 .i64 _ _ 31 rfl rfl rfl rfl ?m1 ?m2 (Nat.le_refl _) ?_)
        case m2 => decide
        rw [zeros31]
        intro w1 ho1 hg1
        have hz1 : w.heap.size ≤ w1.heap.size := hg1.size
        have hB1 : Below w.heap.size w w1 := (Below.refl _ w).grown hg1 (Nat.le_refl _) (by simp)
        clear hg1
        go_upto_block 2 with fail
        go_cut [5, 6] (fun _ _ wx => ∃ g c, wx.heap[w1.heap.size]? = some (.cells #[.int .u32 7, .slice (some ⟨g, 0, none⟩) (bytesAt ss ss.length).length c, .int .i64 (chunkAt ss.length : Nat), .int .i64 (ss.length : Nat), .int .i64 (stAt ss ss.length), .int .i64 (lsAt ss ss.length), .int .i64 (enAt ss ss.length)] 31 (0, 0)) ∧
          wx.ownsRow w.heap.size 5 1 (.slice (some ⟨g, 0, none⟩) (bytesAt ss ss.length).length c) (bytesAt ss ss.length).length (Lib.byteCells (bytesAt ss ss.length)) ∧ Below w.heap.size w wx)
        case first =>
          go_wp2_with fail
          go_loopg [5] ss.length (fun gk iv wr => ∃ i g c, i + gk = ss.length ∧ iv = .int .i64 (i : Nat) ∧ wr.heap[w1.heap.size]? = some (.cells #[.int .u32 7, .slice (some ⟨g, 0, none⟩) (bytesAt ss i).length c, .int .i64 (chunkAt i : Nat), .int .i64 (i : Nat), .int .i64 (stAt ss i), .int .i64 (lsAt ss i), .int .i64 (enAt ss i)] 31 (0, 0)) ∧
            wr.ownsRow w.heap.size 5 1 (.slice (some ⟨g, 0, none⟩) (bytesAt ss i).length c) (bytesAt ss i).length (Lib.byteCells (bytesAt ss i)) ∧ Below w.heap.size w wr)
          case atStart => exact ⟨0, w.heap.size, 31, by omega, rfl, heap_alloc_new w1 _, ho1.alloc _, hB1.alloc hz1 _⟩
          case round =>
            obtain ⟨i, g, c, hi', rfl, hblk, hrow, hbel⟩ := hrel
            have HI : Hid (i + gk = ss.length) := hi'
            have hi' : i ≤ ss.length := by omega
            have hzr : w.heap.size ≤ wr.heap.size := hbel.size
            clear ho1 hB1
            by_cases hlt : i < ss.length
            · have e0 := HS.out (by omega)
              have hbw := HW.out (by omega)
              subst e0
              have hL := HL.out i hlt
              have c0 := (hbel.cell (p := ⟨b, off + i * 4, none⟩) hbw).trans hL.c0
              have c1 := (hbel.cell (p := ⟨b, off + i * 4 + 1, none⟩) hbw).trans hL.c1
              have c2 := (hbel.cell (p := ⟨b, off + i * 4 + 2, none⟩) hbw).trans hL.c2
              have c3 := (hbel.cell (p := ⟨b, off + i * 4 + 3, none⟩) hbw).trans hL.c3
              have HLI : Hid (LiesAt w b off ss[i] i) := hL
              have hI : (i : Int) < (ss.length : Int) := by omega
              clear hL
              have q0 := alloc_cell c0
              have q1 := alloc_cell c1
              have q2 := alloc_cell c2
              have q3 := alloc_cell c3
              go_wp2
              go_region
              go_wp2_with fail
              refine (seqStep w _ w1.heap.size wr.heap.size g c b off ss i hlt hle hsm2.out ?_ ?_ ?_ hz1 HLI.out ?_).mono ?_
              · exact (Below.heap_alloc wr _ _ (Array.getElem?_eq_some_iff.1 hblk).1).trans hblk
              · exact hrow.alloc _
              · exact heap_alloc_new wr _
              · exact (hbel.alloc hzr _).drew
              rintro e w3 ⟨rfl, g', c', hblk3, hrow3, hbel3⟩
              clear hblk hrow hbel c0 c1 c2 c3 q0 q1 q2 q3
              go_wp2_with fail
              go_roundg (gk - 1)
              case measure => have := HI.out; omega
              case rel => exact ⟨i + 1, g', c', by have := HI.out; omega, by go_num, hblk3, hrow3, hbel3⟩
            · have hie : i = ss.length := by omega
              have HIE : Hid (i = ss.length) := hie
              clear hie
              go_wp2_with fail
              go_meet
              have h1 := hblk
              have h2 := hrow
              rw [HIE.out] at h1 h2
              exact ⟨g, c, h1, h2, hbel⟩
        case rest =>
          rename World => W2
          obtain ⟨g, c, hblk, hrow, hbel⟩ := hcut
          have hzc : w.heap.size ≤ W2.heap.size := hbel.size
          have hblt : w1.heap.size < W2.heap.size := (Array.getElem?_eq_some_iff.1 hblk).1
          have hglt : g < W2.heap.size := (hrow.lt g rfl).2
          clear ho1 hB1
          have hdl := dscs_le hsm2.out ss.length
          have hbl := bytes_le hsm2.out ss.length
          go_upto_block 4 with fail
          go_cut [7, 8] (fun dv _ wx => wx.ownsRow W2.heap.size 5 1 dv (dscs ss ss.length).length (Lib.byteCells (dscs ss ss.length)) ∧ Below W2.heap.size W2 wx)
          case first =>
            go_wp2_with fail
            go_loopg [7, 8] ss.length (fun gk dv iv wr => ∃ i, i + gk = ss.length ∧ iv = .int .i64 (i : Nat) ∧ wr.ownsRow W2.heap.size 5 1 dv (dscs ss i).length (Lib.byteCells (dscs ss i)) ∧ Below W2.heap.size W2 wr)
            case atStart => exact ⟨0, by omega, rfl, World.ownsRow_nil _ _ _ _, Below.refl _ _⟩
            case round =>
              obtain ⟨k, hk', rfl, hdr, hbr⟩ := hrel
              have HI : Hid (k + gk = ss.length) := hk'
              have hk' : k ≤ ss.length := by omega
              have hzr : W2.heap.size ≤ wr.heap.size := hbr.size
              have hdk := dscs_le hsm2.out k
              by_cases hlt : k < ss.length
              · have e0 := HS.out (by omega)
                have hbw := HW.out (by omega)
                subst e0
                have hL := HL.out k hlt
                have hB : Below w.heap.size w wr := hbel.trans (hbr.mono hzc)
                have c0 := (hB.cell (p := ⟨b, off + k * 4, none⟩) hbw).trans hL.c0
                have c1 := (hB.cell (p := ⟨b, off + k * 4 + 1, none⟩) hbw).trans hL.c1
                have c2 := (hB.cell (p := ⟨b, off + k * 4 + 2, none⟩) hbw).trans hL.c2
                have c3 := (hB.cell (p := ⟨b, off + k * 4 + 3, none⟩) hbw).trans hL.c3
                have hm1 : ss[k].hm ≤ 1024 := (HSM.out _ (List.getElem_mem hlt)).1
                have hm2 : ss[k].sm ≤ 1024 := (HSM.out _ (List.getElem_mem hlt)).2
                have HH : Hid (BytesAt wr ss[k].ha ss[k].hm ss[k].hod) := hL.hod.below' (Below.refl w.heap.size w) hL.hl hB
                have HC : Hid (BytesAt wr ss[k].sa ss[k].sm ss[k].sec) := hL.sec.below' (Below.refl w.heap.size w) hL.sl hB
                have HLI : Hid (LiesAt w b off ss[k] k) := hL
                have hI : (k : Int) < (ss.length : Int) := by omega
                clear hL
                go_wp2_with fail
                refine (desc W2.heap.size _ _ _ ss[k].o ss[k].l ss[k].ha ss[k].sa ss[k].hm ss[k].hc ss[k].sm ss[k].sc ss[k].hod ss[k].sec wr hdr hzr HH.out HC.out HLI.out.hn HLI.out.sn (fun ad e h => Nat.lt_of_lt_of_le (HLI.out.hl ad e h) hzc) (fun ad e h => Nat.lt_of_lt_of_le (HLI.out.sl ad e h) hzc) (by omega)).mono ?_
                rintro e w3 ⟨v3, rfl, ho3, hb3⟩
                have hcat : Lib.byteCells (dscs ss k) ++ Lib.byteCells (Lib.beBytes 4 (low32 ss[k].l)) ++ Lib.byteCells ss[k].hod ++ Lib.byteCells ss[k].sec = Lib.byteCells (dscs ss (k + 1)) := by
                  rw [dscs_succ hlt]; simp [Lib.byteCells, dsc]
                have hlen : (dscs ss k).length + 4 + ss[k].hm + ss[k].sm = (dscs ss (k + 1)).length := by
                  rw [dscs_succ hlt, List.length_append, dsc_length, HLI.out.hod.1, HLI.out.sec.1]; omega
                rw [hcat, hlen] at ho3
                have hbr3 := hbr.trans hb3
                clear hcat hlen hdr hbr hb3 c0 c1 c2 c3 hB
                go_wp2_with fail
                go_roundg (gk - 1)
                case measure => have := HI.out; omega
                case rel => exact ⟨k + 1, by have := HI.out; omega, by go_num, ho3, hbr3⟩
              · have HIE : Hid (k = ss.length) := by show k = ss.length; omega
                go_wp2_with fail
                go_meet
                have h1 := hdr
                rw [HIE.out] at h1
                exact ⟨h1, hbr⟩
          case rest =>
            obtain ⟨hdr, hbd⟩ := hcut
            have hzd : W2.heap.size ≤ wc.heap.size := hbd.size
            have hblk5 : wc.heap[w1.heap.size]? = _ := (hbd.block _ hblt).trans hblk
            have hrow5 : wc.ownsRow w.heap.size 5 1 (.slice (some ⟨g, 0, none⟩) (bytesAt ss ss.length).length c) (bytesAt ss ss.length).length (Lib.byteCells (bytesAt ss ss.length)) := row_below hrow hbd hglt
            have hbel5 : Below w.heap.size w wc := hbel.trans (hbd.mono hzc)
            have hblt5 : w1.heap.size < wc.heap.size := by omega
            have hglt5 : g < wc.heap.size := by omega
            clear hblk hrow hbel hbd
            go_wp2_with (at_make; refine wpList_make_full _ rfl _ _ 23 rfl wc.heap.size 5 i5 (.int .u8 0) 1 Yba.underlying23 hi5 hz50 hz51 .i64 .i64 _ _ 31 rfl rfl rfl rfl ?m3 ?m4 (Nat.le_refl _) ?_)
            case m3 => rw [hz52]; decide
            case m4 => decide
            rw [zeros31]
            intro w4 ho4 hg4
            have hbe : Below wc.heap.size wc w4 := (Below.refl _ wc).grown hg4 (Nat.le_refl _) (by simp)
            have hblk6 : w4.heap[w1.heap.size]? = _ := (hbe.block _ hblt5).trans hblk5
            have hrow6 := row_below hrow5 hbe hglt5
            have hbel6 : Below w.heap.size w w4 := hbel5.trans (hbe.mono (by omega))
            have hz4 : wc.heap.size ≤ w4.heap.size := hbe.size
            clear hblk5 hrow5 hbel5 hg4
            by_cases hss : ss.length = 0
            · have hb0 : bytesAt ss ss.length = room := by simp [bytesAt, hss]
              rw [hb0, room_length, show chunkAt ss.length = 0 from by simp [chunkAt, hss], show stAt ss ss.length = 0 from by simp [stAt, hss], show lsAt ss ss.length = 0 from by simp [lsAt, hss], show enAt ss ss.length = 0 from by simp [enAt, hss]] at hblk6
              rw [hb0, room_length] at hrow6
              have k0 : w4.cell? ⟨w1.heap.size, 0, none⟩ = some (.int .u32 7) := by simp [World.cell?, hblk6]
              have k1 : w4.cell? ⟨w1.heap.size, 1, none⟩ = some (.slice (some ⟨g, 0, none⟩) 31 c) := by simp [World.cell?, hblk6]
              have k2 : w4.cell? ⟨w1.heap.size, 2, none⟩ = some (.int .i64 0) := by simp [World.cell?, hblk6]
              have k3 : w4.cell? ⟨w1.heap.size, 3, none⟩ = some (.int .i64 (ss.length : Nat)) := by simp [World.cell?, hblk6]
              have k4 : w4.cell? ⟨w1.heap.size, 4, none⟩ = some (.int .i64 0) := by simp [World.cell?, hblk6]
              have k5 : w4.cell? ⟨w1.heap.size, 5, none⟩ = some (.int .i64 0) := by simp [World.cell?, hblk6]
              have k6 : w4.cell? ⟨w1.heap.size, 6, none⟩ = some (.int .i64 0) := by simp [World.cell?, hblk6]
              have z1 : ((ss.length : Int) == 0) = true := by simp [hss]
              have z2 : ¬ (0 : Int) < (ss.length : Int) := by omega
              have HSS : Hid (ss.length = 0) := hss
              clear hss hb0 hblk6
              go_wp2_with fail
              refine (eqSame g 31 c wc.heap.size 31 room w4 room_length (by omega) (fun j u hj => row_cell hrow6 hj) (fun j u hj => row_cell ho4 hj)).mono ?_
              rintro e w7 ⟨rfl, m7, rfl⟩
              go_wp2
              go_ret
              exact ⟨rfl, hbel6.trans ⟨rfl, rfl, rfl, Nat.le_refl _, fun _ _ => rfl⟩⟩
            · have hp : 0 < ss.length := by omega
              have hdpos : 4 ≤ (dscs ss ss.length).length := by
                have h1 := dscs_succ (ss := ss) (i := ss.length - 1) (by omega)
                rw [show ss.length - 1 + 1 = ss.length from by omega] at h1
                rw [h1, List.length_append, dsc_length]
                omega
              obtain ⟨gd, cd, rfl⟩ := Mem.shape hdr (by omega)
              have hgd : gd < wc.heap.size := (hdr.lt gd rfl).2
              have hb0 : bytesAt ss ss.length = outB (dscs ss ss.length) := by simp [bytesAt, hss]
              have hlow : low32 ((dscs ss ss.length).length : Int) = (dscs ss ss.length).length := by unfold low32; omega
              have HB0 : Hid (bytesAt ss ss.length = outB (dscs ss ss.length)) := hb0
              have HLOW : Hid (low32 ((dscs ss ss.length).length : Int) = (dscs ss ss.length).length) := hlow
              have hbn : (bytesAt ss ss.length).length = 36 + (dscs ss ss.length).length := by rw [hb0, outB_length]
              rw [show chunkAt ss.length = 31 from by simp [chunkAt, hss], show stAt ss ss.length = segO ss 0 from by simp [stAt, hss], show lsAt ss ss.length = segO ss (ss.length - 1) from by simp [lsAt, hss], show enAt ss ss.length = wrap64 (segO ss (ss.length - 1) + segL ss (ss.length - 1)) from by simp [enAt, hss], hbn] at hblk6
              rw [hbn] at hrow6
              have z1 : ((ss.length : Int) == 0) = false := by simp [hss]
              have z2 : (0 : Int) < (ss.length : Int) := by omega
              have e0 := HS.out hp
              have hbw := HW.out hp
              subst e0
              clear hss hb0 hlow hbn
              have s4a := ho4.alloc (.cells #[.int .u8 0] 5)
              go_wp2_with (at_builtin; refine wpList_append_own _ rfl (.tmp 84) (.tmp 85) 23 rfl wc.heap.size 5 i5 (.int .u8 0) 1 1 Yba.underlying23 hi5 hz50 hz51 hz52 rfl (by decide) _ _ _ rfl s4a _ 1 1 [.int .u8 0] rfl rfl (new1 _ _ _) one1 ?d1 ?d2 ?d3 ?_)
              case d1 => decide
              case d3 => omega
              intro v5 w5 ho5 hg5 _
              have f5 : Below wc.heap.size w4 w5 := ((Below.refl _ w4).alloc hz4 _).grown hg5 (by simp; omega) (fun k hk => (s4a.lt k hk).1)
              have hz5 : wc.heap.size ≤ w5.heap.size := Nat.le_trans hz4 f5.size
              clear s4a hg5 ho4
              have hn32 : ((dscs ss ss.length).length : Int) < 4294967296 := by omega
              go_wp2_with fail
              refine (put32 wc.heap.size _ (dscs ss ss.length).length (by omega) v5 _ w5 ho5 hz5 (by omega)).mono ?_
              rintro e w6 ⟨v6, rfl, ho6, hg6⟩
              have f6 : Below wc.heap.size w4 w6 := f5.grown hg6 hz5 (fun k hk => (ho5.lt k hk).1)
              have hz6 : wc.heap.size ≤ w6.heap.size := Nat.le_trans hz4 f6.size
              have hdr6 := row_below hdr (hbe.trans f6) hgd
              have hsrc : BytesAt w6 (some ⟨gd, 0, none⟩) (dscs ss ss.length).length (dscs ss ss.length) := by
                refine ⟨rfl, by simp, fun ad e j u hj => ?_⟩
                cases e
                exact hdr6.cells rfl j u hj
              clear f5 hz5 ho5 hg6
              go_wp2_with (at_builtin; refine wpList_append_src _ rfl (.tmp 92) (.tmp 93) 23 rfl wc.heap.size i5 Yba.underlying23 hi5 hz50 hz51 hz52 _ _ _ rfl ho6 (some ⟨gd, 0, none⟩) _ cd (dscs ss ss.length) rfl hsrc (by simp) ?d4 hz6 ?_)
              case d4 => omega
              intro v7 w7 ho7 hg7
              have f7 : Below wc.heap.size w4 w7 := f6.grown hg7 hz6 (fun k hk => (ho6.lt k hk).1)
              have hcat : Lib.byteCells room ++ Value.int .u8 0 :: (Lib.byteCells (Lib.beBytes 4 (dscs ss ss.length).length) ++ Lib.byteCells (dscs ss ss.length)) = Lib.byteCells (bytesAt ss ss.length) := by
                rw [HB0.out, outB, HLOW.out]; simp [Lib.byteCells]
              rw [hcat] at ho7
              obtain ⟨ge, ce, rfl⟩ := Mem.shape ho7 (by omega)
              have hblk7 : w7.heap[w1.heap.size]? = _ := (f7.block _ hblt5).trans hblk6
              have hrow7 := row_below hrow6 f7 hglt5
              have hB7 : Below w.heap.size w w7 := hbel6.trans (f7.mono (by omega))
              have hq : ss.length - 1 < ss.length := by omega
              rw [segO_at hp, segO_at hq, segL_at hq] at hblk7
              have k0 : w7.cell? ⟨w1.heap.size, 0, none⟩ = some (.int .u32 7) := by simp [World.cell?, hblk7]
              have k1 : w7.cell? ⟨w1.heap.size, 1, none⟩ = some (.slice (some ⟨g, 0, none⟩) (36 + (dscs ss ss.length).length) c) := by simp [World.cell?, hblk7]
              have k2 : w7.cell? ⟨w1.heap.size, 2, none⟩ = some (.int .i64 31) := by simp [World.cell?, hblk7]
              have k3 : w7.cell? ⟨w1.heap.size, 3, none⟩ = some (.int .i64 (ss.length : Nat)) := by simp [World.cell?, hblk7]
              have k4 : w7.cell? ⟨w1.heap.size, 4, none⟩ = some (.int .i64 ss[0].o) := by simp [World.cell?, hblk7]
              have k5 : w7.cell? ⟨w1.heap.size, 5, none⟩ = some (.int .i64 ss[ss.length - 1].o) := by simp [World.cell?, hblk7]
              have k6 : w7.cell? ⟨w1.heap.size, 6, none⟩ = some (.int .i64 (wrap64 (ss[ss.length - 1].o + ss[ss.length - 1].l))) := by simp [World.cell?, hblk7]
              have p0 : w7.cell? ⟨b, off, none⟩ = some (.int .i64 ss[0].o) := by
                have := (hB7.cell (p := ⟨b, off + 0 * 4, none⟩) hbw).trans (HL.out 0 hp).c0
                simpa using this
              have p1 := (hB7.cell (p := ⟨b, off + (ss.length - 1) * 4, none⟩) hbw).trans (HL.out _ hq).c0
              have p2 := (hB7.cell (p := ⟨b, off + (ss.length - 1) * 4 + 1, none⟩) hbw).trans (HL.out _ hq).c1
              have y1 : ((ss.length : Int) - 1).toNat = ss.length - 1 := by omega
              have y2 : IntKind.i64.wrap ((ss.length : Int) - 1) = (ss.length : Int) - 1 := IntWalk.i64_in _ (by omega)
              have y3 : (0 : Int) ≤ (ss.length : Int) - 1 := by omega
              have y4 : (ss.length : Int) - 1 < (ss.length : Int) := by omega
              clear hcat hblk6 hrow6 hbel6 f6 f7 hdr6 hsrc ho6 hg7 hblk7 hdr hbe
              go_wp2_with fail
              refine (eqSame g (36 + (dscs ss ss.length).length) c ge ce (bytesAt ss ss.length) w7 (by rw [HB0.out, outB_length]) (by omega) (fun j u hj => row_cell hrow7 hj) (fun j u hj => row_cell ho7 hj)).mono ?_
              rintro e w8 ⟨rfl, m8, rfl⟩
              clear hrow7 ho7
              go_wp2_with fail
              go_quiet (fail)
              go_wp2_with fail
              go_quiet (fail)
              go_wp2
              go_ret
              exact ⟨rfl, hB7.trans ⟨rfl, rfl, rfl, Nat.le_refl _, fun _ _ => rfl⟩⟩
end Go.Proofs.Ybulkcmis.Bytes
