/-
  LawS4405BLowerBound: the walk.
-/
import Derived.Test.YbulkcmeyBSearch
import Derived.Laws.IdiomStrings
namespace Go.Proofs.Ybulkcmey.B
open Go Go.RowKit

theorem found_want {ks : List (List UInt8)} {q : List UInt8} {i wn : Nat} {f wf : Bool} (h : Found ks q i f) (h1 : wn ≤ ks.length) (h2 : ∀ j, j < wn → keyAt ks j < q) (h3 : wn < ks.length → ¬ keyAt ks wn < q) (h4 : wf = true ↔ wn < ks.length ∧ keyAt ks wn = q) : i = wn ∧ f = wf := by
  have e : i = wn := by
    rcases Nat.lt_trichotomy i wn with hlt | heq | hgt
    · exfalso
      have hk := h2 i hlt
      cases f with
      | true => have := (h.2.2.1 rfl).2; rw [this] at hk; exact lt_irrefl _ hk
      | false => exact lt_asymm hk (h.2.2.2 rfl i (Nat.le_refl _) (by omega))
    · exact heq
    · exfalso
      exact h3 (by have := h.1; omega) (h.2.1 wn hgt)
  subst e
  refine ⟨rfl, ?_⟩
  cases f with
  | true => exact (h4.2 (h.2.2.1 rfl)).symm
  | false =>
    cases wf with
    | false => rfl
    | true =>
      exfalso
      obtain ⟨a, b⟩ := h4.1 rfl
      have := h.2.2.2 rfl i (Nat.le_refl _) a
      rw [b] at this
      exact lt_irrefl _ this

theorem NodeAt.below {w w' : World} {hb g cap : Nat} {pl : List UInt8} {ks : List (List UInt8)} (h : NodeAt w hb g cap pl ks) (hb' : Below w.heap.size w w') : NodeAt w' hb g cap pl ks := by
  have key : ∀ {p : Addr} {v : Value}, w.cell? p = some v → w'.cell? p = some v := fun hc => (hb'.cell (World.block_lt_of_cell? w _ hc)).trans hc
  exact ⟨key h.cnt, key h.plen, fun j hj => key (h.heads j hj), key h.keys, fun j hj => key (h.pos j hj), fun j hj => key (h.tails j hj), ⟨h.bytes.1, fun j hj => key (h.bytes.2 j hj)⟩, h.room⟩

theorem cell_of {w : World} {b : Nat} {C : Array Value} {t : TypeId} {fr : Nat × Nat} (h : w.heap[b]? = some (.cells C t fr)) (j : Nat) : w.cell? ⟨b, j, none⟩ = C[j]? := by simp [World.cell?, h]

theorem lies_row (w : World) (s : ByteArray) (c : Nat) (fr : Nat × Nat) : LiesB (w.alloc (.cells (bytesRow s c) 5 fr)) w.heap.size s.size s.toList := by
  refine ⟨len_toList s, fun j hj => ?_⟩
  have h1 : (w.alloc (.cells (bytesRow s c) 5 fr)).cell? ⟨w.heap.size, j, none⟩ = (bytesRow s c)[j]? := cell_of (heap_alloc_new w (.cells (bytesRow s c) 5 fr)) j
  rw [h1, ← byte_get s j hj]
  unfold bytesRow
  rw [Array.getElem?_append_left (by simpa using hj)]
  have hj' : j < s.data.size := hj
  simp [Array.getElem?_map, Array.getElem?_eq_getElem hj']
  rfl

set_option maxHeartbeats 8000000 in
set_option maxRecDepth 100000 in
theorem lowerMain (ao : Option Addr) (c : Nat) (ss : List (List UInt8)) (p qs : ByteArray) (sel : Nat) (w : World) (hs : StrsAt w ao ss.length ss) (hl : ∀ ad, ao = some ad → 0 < ss.length → ad.block < w.heap.size) (hq1 : ss.length ≤ 1024) (hq2 : p.size ≤ 1024) (hq3 : qs.size ≤ 1024) (hsel : sel < 256) :
    Calls Yba.prog 5 #[.slice ao ss.length c, .string p, .string qs, .int .u8 (sel : Nat)] w fun e w' => e = .returned (.bool true) ∧ Below w.heap.size w w' := by
  have HS : Hid (StrsAt w ao ss.length ss) := hs
  have hd1 : decide ((1024 : Int) < (ss.length : Int)) = false := by simp; omega
  have hd2 : decide ((1024 : Int) < (p.size : Int)) = false := by simp; omega
  have hd3 : decide ((1024 : Int) < (qs.size : Int)) = false := by simp; omega
  clear hs
  go_enter Yba.func5, Yba.ntmps5
  go_upto_block 0 with fail
  go_cut [9] (fun _ wx => (∀ s ∈ ss, s.length ≤ 1024) ∧ wx = w)
  case first =>
    go_wp2_with fail
    go_loopg [9] ss.length (fun gk iv wr => ∃ i : Nat, i + gk = ss.length ∧ iv = .int .i64 (i : Nat) ∧ (∀ j (h : j < ss.length), j < i → ss[j].length ≤ 1024) ∧ wr = w)
    case atStart => exact ⟨0, by omega, rfl, fun j h hj => by omega, rfl⟩
    case round =>
      obtain ⟨i, hi, rfl, hj, rfl⟩ := hrel
      have HI : Hid (i + gk = ss.length) := hi
      have HJ : Hid (∀ j (h : j < ss.length), j < i → ss[j].length ≤ 1024) := hj
      clear hj
      by_cases hlt : i < ss.length
      · have hI : (i : Int) < (ss.length : Int) := by omega
        obtain ⟨ad, rfl⟩ : ∃ ad, ao = some ad := by
          cases ao with
          | none => have := HS.out.2.1 rfl; omega
          | some ad => exact ⟨ad, rfl⟩
        have hc : wr.cell? (ad.add i) = some (encStr ss[i]) := HS.out.2.2 ad rfl i _ (by simp [hlt])
        obtain ⟨kb, hkb⟩ : ∃ kb : ByteArray, ByteArray.mk ss[i].toArray = kb := ⟨_, rfl⟩
        have hc' : wr.cell? (ad.add i) = some (.string kb) := by rw [← hkb]; exact hc
        have hks : kb.size = ss[i].length := by rw [← hkb]; rfl
        have HKS : Hid (kb.size = ss[i].length) := hks
        clear hi hc hkb hks
        by_cases hbig : (1024 : Int) < (kb.size : Int)
        · go_wp2
          go_ret
          exact ⟨rfl, Below.refl _ _⟩
        · go_wp2
          go_roundg (gk - 1)
          case measure => have := HI.out; omega
          case rel =>
            refine ⟨i + 1, by have := HI.out; omega, by go_num, ?_, rfl⟩
            intro j hj hji
            by_cases e : j = i
            · subst e; have := HKS.out; omega
            · exact HJ.out j hj (by omega)
      · have hI : ¬ (i : Int) < (ss.length : Int) := by omega
        go_wp2_with fail
        go_meet
        refine ⟨?_, rfl⟩
        intro s hs
        obtain ⟨j, hj, rfl⟩ := List.mem_iff_getElem.1 hs
        exact HJ.out j hj (by omega)
  case rest =>
    obtain ⟨hall, rfl⟩ := hcut
    rename World => W0
    have HALL : Hid (∀ s ∈ keysOf ss, s.length ≤ 1024) := keysOf_len ss hall
    have hkn := keysOf_le ss
    have HR : Hid (Rise (keysOf ss)) := rise_keysOf ss
    clear hall
    go_wp2_with fail
    refine (keys ao c ss _ HS.out hl hq1).mono ?_
    rintro e w2 ⟨g0, c0, rfl, hg0, hb2, hcell⟩
    have HC : Hid (∀ i (h : i < (keysOf ss).length), w2.cell? ⟨g0, i, none⟩ = some (encStr (keysOf ss)[i])) := hcell
    clear hcell
    generalize keysOf ss = ks at *
    go_wp2_with fail
    refine (build p g0 c0 ks w2 hq2 HALL.out hkn hg0 HC.out).mono ?_
    rintro e w3 ⟨hb, g, cap, rfl, hnode, hb3⟩
    have HN : Hid (NodeAt w3 hb g cap p.toList ks) := hnode
    have hz2 : W0.heap.size ≤ w2.heap.size := hb2.size
    have HB3 : Hid (Below W0.heap.size W0 w3) := hb2.trans (hb3.mono hz2)
    have HC3 : Hid (∀ i (h : i < ks.length), ∃ kb : ByteArray, w3.cell? ⟨g0, i, none⟩ = some (.string kb) ∧ kb.toList = keyAt ks i ∧ kb.size ≤ 1024) := fun i h =>
      ⟨ByteArray.mk ks[i].toArray, (hb3.cell (p := ⟨g0, i, none⟩) hg0).trans (HC.out i h), by rw [mk_toList ks[i], keyAt_eq h], HALL.out _ (List.getElem_mem h)⟩
    have hpl : p.toList.length ≤ 1024 := by rw [len_toList]; exact hq2
    have hps : posAt p.toList ks ks.length ≤ 63488 := by
      have := posAt_le (ks := ks) hpl HALL.out ks.length (Nat.le_refl _)
      omega
    clear HC hnode hb3 hb2 hg0
    go_upto_region 11 with fail
    go_cut [58] (fun bv wx => ∃ b : Bool, bv = .bool b ∧ (b = true → 0 < ks.length) ∧ wx = w3)
    case first =>
      by_cases hz : ks.length = 0
      · have hI : ¬ (0 : Int) < (ks.length : Int) := by omega
        clear hz
        go_wp2_with fail
        go_meet
        exact ⟨false, rfl, fun h => (by cases h), rfl⟩
      · have hI : (0 : Int) < (ks.length : Int) := by omega
        by_cases hev : sel % 2 = 0
        · have hev' : ((sel : Int) % 2 == 0) = true := by simp; omega
          go_wp2_with fail
          go_meet
          exact ⟨true, rfl, fun _ => by omega, rfl⟩
        · have hev' : ((sel : Int) % 2 == 0) = false := by simp; omega
          go_wp2_with fail
          go_meet
          exact ⟨false, rfl, fun h => (by cases h), rfl⟩
    case rest =>
     obtain ⟨b, rfl, hbz, rfl⟩ := hcut
     rename World => w3
     go_upto_if 58 with fail
     go_cut [12] (fun qv wx => ∃ qb : ByteArray, qv = .string qb ∧ qb.size ≤ 1024 ∧ wx = w3)
     case first =>
      cases b with
      | false =>
        go_wp2_with fail
        go_meet
        exact ⟨qs, rfl, hq3, rfl⟩
      | true =>
        have hpos := hbz rfl
        obtain ⟨kb, k1, k2, k3⟩ := HC3.out (sel / 2 % ks.length) (Nat.mod_lt _ (by omega))
        have y1 : ((sel / 2 % ks.length : Nat) : Int) = (sel : Int) / 2 % (ks.length : Int) := by rw [Int.natCast_emod]; rfl
        have y2 : ((sel : Int) / 2 % (ks.length : Int)).toNat = sel / 2 % ks.length := by omega
        have y3 : (sel : Int) / 2 % (ks.length : Int) < (ks.length : Int) := by have := Nat.mod_lt (sel / 2) hpos; omega
        have y4 : (0 : Int) ≤ (sel : Int) / 2 % (ks.length : Int) := by omega
        have hbz' : ¬ ks.length = 0 := by omega
        clear hbz
        go_wp2_with fail
        go_meet
        exact ⟨kb, rfl, k3, rfl⟩
     case rest =>
      obtain ⟨qb, rfl, hqb, rfl⟩ := hcut
      have hsum : ¬ p.size + qb.size > 9223372036854775807 := by omega
      have hkt0 : (p ++ qb).toList = p.toList ++ qb.toList := append_toList _ _
      go_upto_block 2 with fail
      generalize p ++ qb = key at *
      have HKT : Hid (key.toList = p.toList ++ qb.toList) := hkt0
      obtain ⟨q, hq⟩ : ∃ q, qb.toList = q := ⟨_, rfl⟩
      rw [hq] at HKT
      clear hkt0 hq
      go_cut [14] (fun wv wx => ∃ wn : Nat, wv = .int .i64 (wn : Nat) ∧ wn ≤ ks.length ∧ (∀ j, j < wn → keyAt ks j < q) ∧ (wn < ks.length → ¬ keyAt ks wn < q) ∧ wx = wc)
      case first =>
        go_wp2_with fail
        go_loopg [14] ks.length (fun gk iv wr => ∃ k : Nat, k + gk = ks.length ∧ iv = .int .i64 (k : Nat) ∧ (∀ j, j < k → keyAt ks j < q) ∧ wr = wc)
        case atStart => exact ⟨0, by omega, rfl, fun j hj => by omega, rfl⟩
        case round =>
          obtain ⟨k, hk, rfl, hj, rfl⟩ := hrel
          have HK : Hid (k + gk = ks.length) := hk
          have HJ : Hid (∀ j, j < k → keyAt ks j < q) := hj
          clear hj
          by_cases hlt : k < ks.length
          · have hI : (k : Int) < (ks.length : Int) := by omega
            obtain ⟨kb, k1, k2, k3⟩ := HC3.out k hlt
            have hsum2 : ¬ p.size + kb.size > 9223372036854775807 := by omega
            have e1 : Op.bytesLess (p ++ kb).toList key.toList = decide (keyAt ks k < q) := by
              rw [bytesLess_eq, HKT.out, append_toList, k2]; exact decide_eq_decide.2 (append_lt _ _ _)
            by_cases hkq : keyAt ks k < q
            · rw [decide_eq_true hkq] at e1
              have HKQ : Hid (keyAt ks k < q) := hkq
              clear hk k2 hkq
              go_wp2
              go_roundg (gk - 1)
              case measure => have := HK.out; omega
              case rel =>
                refine ⟨k + 1, by have := HK.out; omega, by go_num, fun j hj => ?_, rfl⟩
                by_cases e : j = k
                · rw [e]; exact HKQ.out
                · exact HJ.out j (by omega)
            · rw [decide_eq_false hkq] at e1
              have HKQ : Hid (¬ keyAt ks k < q) := hkq
              clear hk k2 hkq
              go_wp2_with fail
              go_meet
              exact ⟨k, rfl, by omega, HJ.out, fun _ => HKQ.out, rfl⟩
          · have hI : ¬ (k : Int) < (ks.length : Int) := by omega
            go_wp2_with fail
            go_meet
            exact ⟨k, rfl, by omega, HJ.out, fun h => absurd h hlt, rfl⟩
      case rest =>
        obtain ⟨wn, rfl, hwn, hw1, hw2, hwe⟩ := hcut
        subst hwe
        have HW1 : Hid (∀ j, j < wn → keyAt ks j < q) := hw1
        have HW2 : Hid (wn < ks.length → ¬ keyAt ks wn < q) := hw2
        clear hw1 hw2
        rename World => W4
        go_upto_region 17 with fail
        go_cut [15] (fun fv wx => ∃ wf : Bool, fv = .bool wf ∧ (wf = true ↔ wn < ks.length ∧ keyAt ks wn = q) ∧ wx = W4)
        case first =>
          by_cases hlt : wn < ks.length
          · have hI : (wn : Int) < (ks.length : Int) := by omega
            obtain ⟨kb, k1, k2, k3⟩ := HC3.out wn hlt
            have hsum2 : ¬ p.size + kb.size > 9223372036854775807 := by omega
            have e1 : ((p ++ kb).toList == key.toList) = decide (keyAt ks wn = q) := by
              rw [HKT.out, append_toList, k2, Bool.eq_iff_iff]; simp
            by_cases hkq : keyAt ks wn = q
            · rw [decide_eq_true hkq] at e1
              have HKQ : Hid (keyAt ks wn = q) := hkq
              clear k2 hkq
              go_wp2_with fail
              go_meet
              exact ⟨true, rfl, ⟨fun _ => ⟨hlt, HKQ.out⟩, fun _ => rfl⟩, rfl⟩
            · rw [decide_eq_false hkq] at e1
              have HKQ : Hid (¬ keyAt ks wn = q) := hkq
              clear k2 hkq
              go_wp2_with fail
              go_meet
              exact ⟨false, rfl, ⟨fun h => (by cases h), fun h => absurd h.2 HKQ.out⟩, rfl⟩
          · have hI : ¬ (wn : Int) < (ks.length : Int) := by omega
            go_wp2_with fail
            go_meet
            exact ⟨false, rfl, ⟨fun h => (by cases h), fun h => absurd h.1 hlt⟩, rfl⟩
        case rest =>
          obtain ⟨wf, rfl, hwf, hwe⟩ := hcut
          subst hwe
          have HWF : Hid (wf = true ↔ wn < ks.length ∧ keyAt ks wn = q) := hwf
          clear hwf
          go_wp2_with fail
          refine (searchS hb g cap p.toList ks key q _ HN.out hkn hps hpl HR.out HKT.out).mono ?_
          rintro e w5 ⟨i, f, rfl, hfound, m5, hw5⟩
          obtain ⟨rfl, rfl⟩ := found_want hfound hwn HW1.out HW2.out HWF.out
          have hx : ((i : Int) != (i : Int)) = false := by simp
          have hy : (f != f) = false := by simp
          have HN5 : Hid (NodeAt w5 hb g cap p.toList ks) := by rw [hw5]; exact HN.out.drewN m5
          have HB5 : Hid (Below W0.heap.size W0 w5) := by rw [hw5]; exact HB3.out.trans ⟨rfl, rfl, rfl, Nat.le_refl _, fun _ _ => rfl⟩
          have hz5 : W0.heap.size ≤ w5.heap.size := HB5.out.size
          clear hfound hw5
          have hcv := run_bytes_of_string (P := Yba.prog) w5 9 23 5 key Yba.underlying9 Yba.underlying23 Yba.underlying5
          have hge := grownCap_ge w5 key.size 0 5
          have HL6 : Hid (LiesB (w5.drew.alloc (.cells (bytesRow key (grownCap w5 key.size 0 5)) 5 ((bytesRow key (grownCap w5 key.size 0 5)).size, (bytesRow key (grownCap w5 key.size 0 5)).size + 1))) w5.heap.size key.size (p.toList ++ q)) := by
            have := lies_row w5.drew key (grownCap w5 key.size 0 5) ((bytesRow key (grownCap w5 key.size 0 5)).size, (bytesRow key (grownCap w5 key.size 0 5)).size + 1)
            rw [HKT.out] at this
            exact this
          have HB6 : Hid (Below w5.heap.size w5 (w5.drew.alloc (.cells (bytesRow key (grownCap w5 key.size 0 5)) 5 ((bytesRow key (grownCap w5 key.size 0 5)).size, (bytesRow key (grownCap w5 key.size 0 5)).size + 1)))) := (Below.refl _ w5).drew.alloc (Nat.le_refl _) _
          generalize w5.drew.alloc (.cells (bytesRow key (grownCap w5 key.size 0 5)) 5 ((bytesRow key (grownCap w5 key.size 0 5)).size, (bytesRow key (grownCap w5 key.size 0 5)).size + 1)) = w6 at *
          generalize grownCap w5 key.size 0 5 = ck at *
          go_wp2_with fail
          refine (searchB hb g cap p.toList ks w5.heap.size key.size ck q _ (HN5.out.below HB6.out) hkn hps hpl HR.out HL6.out hge).mono ?_
          rintro e w7 ⟨i2, f2, rfl, hfound, m7, rfl⟩
          obtain ⟨rfl, rfl⟩ := found_want hfound hwn HW1.out HW2.out HWF.out
          have hx' : ((i2 : Int) == (i2 : Int)) = true := by simp
          have hy' : (f2 == f2) = true := by simp
          clear hfound hx hy
          go_wp2
          go_ret
          exact ⟨rfl, (HB5.out.trans (HB6.out.mono hz5)).trans ⟨rfl, rfl, rfl, Nat.le_refl _, fun _ _ => rfl⟩⟩

set_option maxHeartbeats 4000000 in
set_option maxRecDepth 100000 in
theorem lawLower (ao : Option Addr) (c : Nat) (ss : List (List UInt8)) (p qs : ByteArray) (sel : Nat) (w : World) (hs : StrsAt w ao ss.length ss) (hl : ∀ ad, ao = some ad → 0 < ss.length → ad.block < w.heap.size) (hmx : ss.length ≤ 9223372036854775807) (hsel : sel < 256) :
    Calls Yba.prog 5 #[.slice ao ss.length c, .string p, .string qs, .int .u8 (sel : Nat)] w fun e w' => e = .returned (.bool true) ∧ Below w.heap.size w w' := by
  by_cases h1 : (1024 : Int) < (ss.length : Int)
  · go_enter Yba.func5, Yba.ntmps5
    go_wp2
    go_ret
    exact ⟨rfl, Below.refl _ _⟩
  · by_cases h2 : (1024 : Int) < (p.size : Int)
    · go_enter Yba.func5, Yba.ntmps5
      go_wp2
      go_ret
      exact ⟨rfl, Below.refl _ _⟩
    · by_cases h3 : (1024 : Int) < (qs.size : Int)
      · go_enter Yba.func5, Yba.ntmps5
        go_wp2
        go_ret
        exact ⟨rfl, Below.refl _ _⟩
      · exact lowerMain ao c ss p qs sel w hs hl (by omega) (by omega) (by omega) hsel
end Go.Proofs.Ybulkcmey.B
