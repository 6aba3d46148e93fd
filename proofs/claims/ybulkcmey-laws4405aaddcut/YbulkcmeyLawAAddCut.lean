/-
  LawS4405AAddCut: the walk.
-/
import Derived.Test.YbulkcmeyMid
import Derived.Test.YbulkcmeyRound
namespace Go.Proofs.Ybulkcmey.Rec
open Go.RowKit Go.Sort
open Go.Proofs.Ybulkcmey.Hint
attribute [local go_sem] Oper.semAt_some

/-- The entries that the law adds. -/
def entOf (ss : List Nat) (i : Nat) : Ent := ⟨0, [(97 + i % 26).toUInt8], ss.getD i 0⟩
def entsOf (ss : List Nat) : List Ent := (List.range ss.length).map (entOf ss)

theorem entsOf_length (ss : List Nat) : (entsOf ss).length = ss.length := by simp [entsOf]
theorem entsOf_at (ss : List Nat) {i : Nat} (h : i < (entsOf ss).length) : (entsOf ss)[i] = entOf ss i := by simp [entsOf]
theorem letter (i : Nat) : (((97 + i % 26).toUInt8).toNat : Int) = 97 + (i : Int) % 26 := by
  rw [show ((97 + i % 26).toUInt8).toNat = (97 + i % 26) % 256 from by simp [Nat.toUInt8, UInt8.toNat_ofNat']]
  omega

theorem entsOf_plain {ss : List Nat} (h : ∀ s ∈ ss, s < 65536) : Plain (entsOf ss) := by
  intro e he
  obtain ⟨i, hi, rfl⟩ := List.mem_map.1 he
  have hi' : i < ss.length := by simpa using hi
  refine ⟨rfl, rfl, ?_⟩
  show ss.getD i 0 < 65536
  rw [List.getD_eq_getElem?_getD, List.getElem?_eq_getElem hi']
  exact h _ (List.getElem_mem hi')

theorem posAt_ge (es : List Ent) (i : Nat) : 12 ≤ posAt es i := by
  rw [posAt, bufOf, List.length_append, hdr_length]
  omega

theorem sum_plain {es : List Ent} (hf : Plain es) : (es.map (·.size)).sum ≤ es.length * 65536 := by
  induction es with
  | nil => simp
  | cons e r ih =>
    have h1 := (hf e (List.mem_cons_self ..)).2.2
    have h2 := ih (fun x hx => hf x (List.mem_cons_of_mem _ hx))
    simp only [List.map_cons, List.sum_cons, List.length_cons]
    omega

theorem end_plain {es : List Ent} (hf : Plain es) (i : Nat) : endAt es i ≤ 24 + es.length * 65536 := by
  have h := sum_plain (es := es.take i) (fun e he => hf e (List.mem_of_mem_take he))
  have h2 : (es.take i).length ≤ es.length := List.length_take_le' _ _
  have : (es.take i).length * 65536 ≤ es.length * 65536 := Nat.mul_le_mul_right _ h2
  unfold endAt
  omega

theorem row_take {w : World} {B : Nat} {e : TypeId} {g n c m : Nat} {xs : List Value} (h : w.ownsRow B e 1 (.slice (some ⟨g, 0, none⟩) n c) n xs) (hm : m ≤ n) : w.ownsRow B e 1 (.slice (some ⟨g, 0, none⟩) m c) m (xs.take m) := by
  have hl := h.1
  refine ⟨by simp at hl ⊢; omega, ?_⟩
  rcases h.2 with ⟨hv, _⟩ | ⟨g', c', cur, hv, hbg, hgg, hc, hmx, hsz, htk⟩
  · simp at hv
  · simp at hv
    obtain ⟨rfl, rfl⟩ := hv
    refine .inr ⟨g, c, cur, rfl, hbg, hgg, by omega, hmx, hsz, ?_⟩
    rw [← htk, List.take_take]
    congr 1
    omega

theorem keeps_drewN (W : World) (n : Nat) : KeepsOthers W (W.drewN n) := ⟨Nat.le_refl _, fun _ _ h _ => h⟩

theorem wrong_prefix {m n k : Nat} {pre : List { k : Nat // k < m }} {hk : k < m} (h : k ≠ pre.length) : ¬ ((pre ++ [(⟨k, hk⟩ : { k : Nat // k < m })]).map Subtype.val <+: List.range n) := by
  intro hp
  obtain ⟨t, ht⟩ := hp
  have h1 : (List.map Subtype.val (pre ++ [(⟨k, hk⟩ : { k : Nat // k < m })]) ++ t)[pre.length]? = some k := by simp
  rw [ht] at h1
  have h2 : (List.range n)[pre.length]? = some k := h1
  rw [List.getElem?_range] at h2
  · simp at h2; exact h h2.symm
  · have := (List.getElem?_eq_some_iff.1 h2).1
    simpa using this

theorem mid_next {V : World} {N : Nat} {W : World} {ks : List Ent} {α : Type} {pre : List α} {x : α} {s : Nat} (h : Mid V N W ((pre.length : Int) + 1) ((endAt ks pre.length : Int) + (s : Int))) (he : endAt ks (pre.length + 1) = endAt ks pre.length + s) :
    Mid V N W ((pre ++ [x]).length : Nat) (endAt ks (pre ++ [x]).length : Nat) := by
  rw [List.length_append, List.length_singleton, he]
  push_cast
  exact h

theorem row_mid {V W : World} {N : Nat} {n p : Int} (h : Mid V N W n p) {B : Nat} {e : TypeId} {g m c : Nat} {xs : List Value} (ho : V.ownsRow B e 1 (.slice (some ⟨g, 0, none⟩) m c) m xs) (h1 : g ≠ N) (h2 : g ≠ N + 1) : W.ownsRow B e 1 (.slice (some ⟨g, 0, none⟩) m c) m xs := by
  refine ⟨ho.1, ?_⟩
  rcases ho.2 with hn | ⟨g', c', cur, hv, hbg, hgg, rest⟩
  · exact .inl hn
  · simp at hv
    obtain ⟨rfl, rfl⟩ := hv
    exact .inr ⟨g, c, cur, rfl, hbg, h.old _ _ hgg h1 h2, rest⟩

theorem row_drewN {w : World} {B : Nat} {e : TypeId} {s : Nat} {v : Value} {n : Nat} {xs : List Value} (h : w.ownsRow B e s v n xs) (m : Nat) : (w.drewN m).ownsRow B e s v n xs := h

/-- The argument's cells. -/
def LieS (w : World) (b off : Nat) (ss : List Nat) : Prop := ∀ i (h : i < ss.length), w.cell? ⟨b, off + i, none⟩ = some (.int .u16 (ss[i] : Nat))

set_option maxHeartbeats 2000000 in
set_option maxRecDepth 100000 in
theorem lawAddCut (a0 : Option Addr) (cap b off : Nat) (ss : List Nat) (rel : Int) (w : World) (hs : 0 < ss.length → a0 = some ⟨b, off, none⟩) (hlie : LieS w b off ss) (hbw : 0 < ss.length → b < w.heap.size)
    (hsz : ∀ s ∈ ss, s < 65536) (h0 : -2147483648 ≤ rel) (h1 : rel ≤ 2147483647) (hrl : ss.length ≤ maxLen) :
    Calls Yba.prog 4 #[.slice a0 ss.length cap, .int .i32 rel] w fun e w' => e = .returned (.bool true) ∧ Below w.heap.size w w' := by
  refine (callsIn_wide (n := 9)).1 ?_
  refine callsIn_of_wp_marks Yba.func4 rfl trivial ?_ rfl
  simp only [Yba.ntmps4, List.size_toArray, List.length_cons, List.length_nil, Nat.reduceAdd, Nat.reduceSub, Array.replicate_succ, Array.replicate_zero, List.push_toArray, List.append_toArray, List.nil_append, List.cons_append]
  refine wpIn_wide.2 ?_
  unfold maxLen at hrl
  by_cases hbig : 256 < ss.length
  · go_wp2
    exact ⟨_, results_tmp rfl _ _ _, rfl, (Below.refl _ _).alloc (Nat.le_refl _) _⟩
  · have hplain := entsOf_plain hsz
    have HS : Hid (0 < ss.length → a0 = some ⟨b, off, none⟩) := hs
    have HL : Hid (LieS w b off ss) := hlie
    have HW : Hid (0 < ss.length → b < w.heap.size) := hbw
    clear hlie hs hbw
    have hd : decide ((256 : Int) < (ss.length : Int)) = false := by simp; omega
    have hle : ss.length ≤ 256 := by omega
    clear hbig
    go_wp2_with fail
    refine (newHint _).mono ?_
    rintro e w1 ⟨hb, g0, c0, rfl, hhb, hblk, hown, hbel⟩
    have hz0 : ((w.alloc (.cells #[.slice a0 ss.length cap] 41)).alloc (.cells #[.int .i64 (24 + rel)] 2)).heap.size = w.heap.size + 2 := by simp
    rw [hz0] at hhb hown hbel
    have k0 : w1.heap[w.heap.size]? = some (.cells #[.slice a0 ss.length cap] 41 (0, 0)) := by
      rw [hbel.block _ (by omega), Below.heap_alloc _ _ _ (by simp)]
      exact heap_alloc_new w _
    have k1 : w1.heap[w.heap.size + 1]? = some (.cells #[.int .i64 (24 + rel)] 2 (0, 0)) := by
      rw [hbel.block _ (by omega)]
      have := heap_alloc_new (w.alloc (.cells #[.slice a0 ss.length cap] 41)) (.cells #[.int .i64 (24 + rel)] 2)
      simpa using this
    have hB1 : Below w.heap.size w w1 := (((Below.refl _ w).alloc (Nat.le_refl _) _).alloc (by simp) _).trans (hbel.mono (by omega))
    have hz1 : w.heap.size + 2 ≤ w1.heap.size := by have := hbel.size; rw [hz0] at this; exact this
    clear hz0 hbel
    have hc0 : w1.cell? ⟨w.heap.size, 0, none⟩ = some (.slice a0 ss.length cap) := by simp [World.cell?, k0]
    obtain ⟨es, hes⟩ : ∃ es, es = entsOf ss := ⟨_, rfl⟩
    have HES : Hid (es = entsOf ss) := hes
    have HEL : Hid (es.length = ss.length) := by rw [hes]; exact entsOf_length ss
    rw [← hes] at hplain
    clear hes
    have hfine := hplain.fine
    have hel2 : es.length ≤ 256 := by have := HEL.out; omega
    go_upto_block 0 with fail
    go_cut [7, 8] from 21 to 38 (fun _ _ wx => ∃ g c, wx.heap[hb]? = some (.cells #[.slice (some ⟨g, 0, none⟩) (bufOf es).length c, .int .i64 (endAt es es.length : Nat)] 37 (0, 0)) ∧ wx.ownsRow w.heap.size 5 1 (.slice (some ⟨g, 0, none⟩) (bufOf es).length c) (bufOf es).length (Lib.byteCells (bufOf es)) ∧ Fr w.heap.size hb w1 wx)
    case first =>
      go_wp2_with fail
      go_loopg [23] ss.length (fun gk iv wr => ∃ i g c, i + gk = ss.length ∧ iv = .int .i64 (i : Nat) ∧ wr.heap[hb]? = some (.cells #[.slice (some ⟨g, 0, none⟩) (posAt es i) c, .int .i64 (endAt es i : Nat)] 37 (0, 0)) ∧
        wr.ownsRow w.heap.size 5 1 (.slice (some ⟨g, 0, none⟩) (posAt es i) c) (posAt es i) (Lib.byteCells (bufOf (es.take i))) ∧ Fr w.heap.size hb w1 wr)
      case atStart =>
        refine ⟨0, g0, c0, by omega, rfl, ?_, ?_, Fr.refl _ _ _⟩
        · rw [posAt_zero, endAt_zero]; exact hblk
        · rw [posAt_zero]
          refine ⟨hown.1, ?_⟩
          rcases hown.2 with hn | ⟨g, cap', cur, hv, hbg, rest⟩
          · exact .inl hn
          · exact .inr ⟨g, cap', cur, hv, by omega, by simpa [bufOf] using rest⟩
      case round =>
        obtain ⟨i, g, c, hi, rfl, hblk', hown', hfr⟩ := hrel
        have HI : Hid (i + gk = ss.length) := hi
        have hi : i ≤ ss.length := by omega
        clear hblk hown hc0
        have hpl := len_le hfine
        have hpl2 := posAt_le es i
        have hel3 := end_plain hplain i
        have hzr : w1.heap.size ≤ wr.heap.size := hfr.bel.size
        by_cases hlt : i < ss.length
        · have e0 := HS.out (by omega)
          have hbw := HW.out (by omega)
          subst e0
          have hlt' : i < es.length := by have := HEL.out; omega
          have hei : Hid (es[i] = entOf ss i) := by
            have h := HES.out
            subst h
            exact entsOf_at ss hlt'
          have cs : wr.cell? ⟨b, off + i, none⟩ = some (.int .u16 (ss[i] : Nat)) := ((hfr.bel.cell (p := ⟨b, off + i, none⟩) hbw).trans (hB1.cell (p := ⟨b, off + i, none⟩) hbw)).trans (HL.out i hlt)
          have hsi : ss[i] < 65536 := hsz _ (List.getElem_mem hlt)
          go_wp2_with fail
          have hb2 : (wr.alloc (.cells #[.int .u8 (97 + (i : Int) % 26)] 5)).heap[hb]? = some (.cells #[.slice (some ⟨g, 0, none⟩) (posAt es i) c, .int .i64 ((endAt es i : Nat) : Int)] 37 (0, 0)) := (Below.heap_alloc wr _ hb (Array.getElem?_eq_some_iff.1 hblk').1).trans hblk'
          have hk2 : (wr.alloc (.cells #[.int .u8 (97 + (i : Int) % 26)] 5)).heap[wr.heap.size]? = some (.cells #[.int .u8 (((97 + i % 26).toUInt8).toNat : Int)] 5 (0, 0)) := by rw [letter]; exact heap_alloc_new wr _
          have hp12 : 12 ≤ posAt es i := posAt_ge es i
          refine (add w.heap.size hb wr.heap.size g (posAt es i) c ss[i] (bufOf (es.take i)) ((97 + i % 26).toUInt8) (endAt es i : Nat) _ hb2 (hown'.alloc _) hk2 (by omega) (by omega) (by omega) (by simp; omega) hsi (by omega) (by omega)).mono ?_
          rintro e w3 ⟨rfl, g', c', hblk3, hown3, hfr3⟩
          have hfr4 : Fr w.heap.size hb w1 w3 := (hfr.trans (Fr.alloc (by omega) _)).trans hfr3
          have hps : Hid (posAt es (i + 1) = posAt es i + 8) := by
            have h := posAt_succ hlt'
            have hk := (hplain es[i] (List.getElem_mem hlt')).1
            show posAt es (i + 1) = posAt es i + 8
            omega
          have hen : Hid (endAt es (i + 1) = endAt es i + ss[i]) := by
            have h := endAt_succ hlt'
            rw [hei.out] at h
            show endAt es (i + 1) = endAt es i + ss[i]
            simpa [entOf, List.getD, List.getElem?_eq_getElem hlt] using h
          have hbu : Hid (bufOf (es.take (i + 1)) = bufOf (es.take i) ++ enc ⟨0, [(97 + i % 26).toUInt8], ss[i]⟩) := by
            show _ = _
            rw [take_snoc hlt', bufOf_snoc, hei.out]
            simp [entOf, List.getD, List.getElem?_eq_getElem hlt]
          clear hfr hfr3 hb2 hk2 hblk' hown' cs
          go_wp2_with fail
          go_roundg (gk - 1)
          case measure => have := HI.out; omega
          case rel =>
            refine ⟨i + 1, g', c', by have := HI.out; omega, by go_num, ?_, ?_, hfr4⟩
            · rw [hps.out, hen.out, hblk3]; simp
            · rw [hps.out, hbu.out]; exact hown3
        · have hie : i = ss.length := by omega
          have HIE : Hid (i = es.length) := by have := HEL.out; show i = es.length; omega
          go_wp2_with fail
          go_meet
          refine ⟨g, c, ?_, ?_, hfr⟩
          · have := hblk'
            rw [HIE.out, posAt_all] at this
            exact this
          · have := hown'
            rw [HIE.out, posAt_all, List.take_length] at this
            exact this
    case rest =>
      obtain ⟨g, c, hblk2, hown2, hfr⟩ := hcut
      have hk0 : wc.heap[w.heap.size]? = some (.cells #[.slice a0 ss.length cap] 41 (0, 0)) := hfr.keep _ _ k0 (by omega) rfl
      have hk1 : wc.heap[w.heap.size + 1]? = some (.cells #[.int .i64 (24 + rel)] 2 (0, 0)) := hfr.keep _ _ k1 (by omega) rfl
      have hB2 : Below w.heap.size w wc := hB1.trans hfr.bel
      have hzc : w1.heap.size ≤ wc.heap.size := hfr.bel.size
      clear hblk hown k0 k1 hc0 hfr hB1
      have o1 : wc.cell? ⟨w.heap.size + 1, 0, none⟩ = some (.int .i64 (24 + rel)) := by simp [World.cell?, hk1]
      go_wp2_with fail
      refine (cut w.heap.size hb g c es (24 + rel) _ wc hfine hel2 hblk2 hown2).mono ?_
      rintro e w5 ⟨rfl, j, hcut, hblk5, hg5⟩
      have hne : g ≠ hb := by
        intro e
        subst e
        rcases hown2.2 with ⟨h, _⟩ | ⟨g', c', cur, h, _, hgg, _⟩
        · simp at h
        · simp at h
          obtain ⟨rfl, _⟩ := h
          rw [hblk2] at hgg
          simp at hgg
      have hown5 := hown2.kept hg5 (by simp [Value.ownBlock]; exact hne)
      have hk0' : w5.heap[w.heap.size]? = some (.cells #[.slice a0 ss.length cap] 41 (0, 0)) := (hg5.block _ (by omega) (by simp; omega)).trans hk0
      have hk1' : w5.heap[w.heap.size + 1]? = some (.cells #[.int .i64 (24 + rel)] 2 (0, 0)) := (hg5.block _ (by omega) (by simp; omega)).trans hk1
      have hB5 : Below w.heap.size w w5 := hB2.grown hg5 (by omega) (by intro k hk; simp at hk; omega)
      have hz5 : wc.heap.size ≤ w5.heap.size := hg5.size
      have hrow : w5.ownsRow w.heap.size 5 1 (.slice (some ⟨g, 0, none⟩) (bufOf (es.take j)).length c) (bufOf (es.take j)).length (Lib.byteCells (bufOf (es.take j))) := by
        have h := row_take hown5 (posAt_le es j)
        rw [show (Lib.byteCells (bufOf es)).take (posAt es j) = Lib.byteCells (bufOf (es.take j)) from by rw [← bufOf_take]; simp [Lib.byteCells]] at h
        exact h
      clear hblk2 hown2 hk0 hk1 o1 hB2 hown5 hg5
      have HC : Hid (IsCut es (24 + rel) j) := hcut
      have hjl : j ≤ es.length := hcut.1
      clear hcut
      go_wp2_with fail
      refine (entries hb _).mono ?_
      rintro e V ⟨rfl, hV⟩
      obtain ⟨vn, vp, vo, vb, vz, hBV⟩ := alloc4 w5 _ _ _ _ V hV
      have hsb : (((w5.alloc (.cells #[.int .i64 0] 3)).alloc (.cells #[.int .i64 24] 2)).alloc (.cells #[.bool true] 4)).heap.size = w5.heap.size + 3 := by simp
      simp only [hsb]
      clear hV hsb
      have hbl : hb < w5.heap.size := (Array.getElem?_eq_some_iff.1 hblk5).1
      have hgl : g < w5.heap.size := (hrow.lt g rfl).2
      have hRd : Reads (es.take j) w.heap.size hb g c (w5.heap.size + 3) (.int .i64 (endAt es j : Nat)) V :=
        ⟨(hBV.block _ hbl).trans hblk5, hrow.kept (grown_below none hBV) (by simp [Value.ownBlock]), vb⟩
      have v0 : V.heap[w.heap.size]? = some (.cells #[.slice a0 ss.length cap] 41 (0, 0)) := (hBV.block _ (by omega)).trans hk0'
      have v1 : V.heap[w.heap.size + 1]? = some (.cells #[.int .i64 (24 + rel)] 2 (0, 0)) := (hBV.block _ (by omega)).trans hk1'
      have hBw : Below w.heap.size w V := hB5.trans (hBV.mono (by omega))
      clear hblk5 hrow hk0' hk1' hB5 hBV vb
      have hz : w.heap.size + 2 ≤ w5.heap.size := by omega
      generalize w5.heap.size = N0 at *
      obtain ⟨ks, hks⟩ : ∃ ks, ks = es.take j := ⟨_, rfl⟩
      have HKS : Hid (ks = es.take j) := hks
      rw [← hks] at hRd
      have hkp : Plain ks := by rw [hks]; exact fun e he => hplain e (List.mem_of_mem_take he)
      have hkl : Hid (ks.length = j) := by show ks.length = j; rw [hks, List.length_take]; omega
      have hkl2 : ks.length ≤ 256 := by have := hkl.out; omega
      have HKE : Hid (∀ k (h : k < ks.length), ks[k] = entOf ss k) := by
        intro k h
        have h' : k < (entsOf ss).length := by rw [entsOf_length]; have := HEL.out; have := hkl.out; omega
        have he : es = entsOf ss := HES.out
        subst hks
        subst he
        rw [List.getElem_take]
        exact entsOf_at ss h'
      have hend : Hid (∀ k, k ≤ j → endAt ks k = endAt es k) := by
        intro k h
        rw [hks, endAt, endAt, List.take_take]
        rw [show min k j = k from by omega]
      clear hks
      go_wp2_with fail
      refine wp_frame ?_
      intro T hT
      refine (wpIn_wide (n := 8)).1 ?_
      refine wpIn_rangeFunc_ownH rfl (by omega) (gf := 28) (lb := #[.pointer (some ⟨N0 + 3, 0, none⟩)]) (by rw [hT]; rfl) trivial (enters_of Yba.func28 (by kernel_rfl) rfl)
        (iterates 7 ks hkp hkl2 w.heap.size hb g c (N0 + 3) _ V hRd) kpE_trans (fun W l o o' hl _ _ _ => kpE_put (M := V.heap.size) (by omega) (by omega) (by omega) W l o' hl) (Below.refl _ _) (fun _ => rfl)
        (fun pre W => Mid V N0 W (pre.length : Nat) (endAt ks pre.length : Nat))
        (fun c (pre : List { k : Nat // k < ks.length }) _ => c = .exit 2 ∧ ¬ (pre.map Subtype.val <+: List.range ks.length))
        (fun pre A B row hs hg hr => hs.grown (by omega) hg (fun r e => (hr r e).1))
        (fun c pre A B row hs _ _ => hs)
        (Mid.start vn (by rw [List.length_nil, endAt_zero]; exact vp))
        (fun x a' W => ∃ Bx, W.heap[Bx]? = some (.cells #[.int .i64 (endAt ks x.1 : Nat), .int .i64 (szAt ks x.1 : Nat), .slice (some ⟨g, posAt ks x.1 + 7, none⟩) 1 (c - (posAt ks x.1 + 7)), .bool false, .bool false, .bool false] 45 (0, 0)) ∧
          a' = { tmps := (T.setIfInBounds 44 (entV ks g c x.1)).setIfInBounds 12 (.pointer (some ⟨Bx, 0, none⟩)), defers := [] })
        (fun x a' u A B row hs hg hr => by
          obtain ⟨Bx, h1, h2⟩ := hs
          refine ⟨Bx, ?_, h2⟩
          rw [hg.block Bx (Array.getElem?_eq_some_iff.1 h1).1, h1]
          intro e
          obtain ⟨_, o, ho, hc⟩ := hr Bx e.symm
          rw [h1] at ho
          cases ho
          cases hc)
        ?assign ?body ?done ?stop
      case assign =>
        rintro l pre x W K hi hK
        subst hT
        simp only [entV] at *
        gi_wp2
        refine hK _ _ ((KeepsOthers.alloc _ _).from _) ?_ (hi.alloc (by omega) _) ⟨W.heap.size, heap_alloc_new W _, ?_⟩
        · exact hi.kp (hi.alloc (by omega) _) (by omega) (by omega) (by omega) ⟨by omega, by omega⟩ ⟨by omega, by omega⟩ ⟨by omega, by omega⟩
        · simp
      case body =>
        rintro l pre x a' W hl ⟨r, hr⟩ hI ⟨Bx, hBx, rfl⟩ hlt
        subst hT
        simp only [entV, List.setIfInBounds_toArray, List.set_cons_succ, List.set_cons_zero]
        obtain ⟨k, hk⟩ := x
        simp only at hBx ⊢
        have hkj := hkl.out
        have hnl : pre.length < ss.length := by have := HEL.out; omega
        have e0 := HS.out (by omega)
        have hbw := HW.out (by omega)
        subst e0
        have cn : W.cell? ⟨N0, 0, none⟩ = some (.int .i64 (pre.length : Nat)) := by simp [World.cell?, hI.nb]
        have cp : W.cell? ⟨N0 + 1, 0, none⟩ = some (.int .i64 (endAt ks pre.length : Nat)) := by simp [World.cell?, hI.pb]
        have ho : W.heap[N0 + 1 + 1]? = some (.cells #[.bool true] 4 (0, 0)) := hI.old _ _ vo (by omega) (by omega)
        have co : W.cell? ⟨N0 + 1 + 1, 0, none⟩ = some (.bool true) := by simp [World.cell?, ho]
        have fo : W.frozen? ⟨N0 + 1 + 1, 0, none⟩ = false := by simp [World.frozen?, ho]
        have fn : W.frozen? ⟨N0, 0, none⟩ = false := by simp [World.frozen?, hI.nb]
        have fp : W.frozen? ⟨N0 + 1, 0, none⟩ = false := by simp [World.frozen?, hI.pb]
        have cs : W.cell? ⟨w.heap.size, 0, none⟩ = some (.slice (some ⟨b, off, none⟩) ss.length cap) := by simp [World.cell?, hI.old _ _ v0 (by omega) (by omega)]
        have cf : W.cell? ⟨w.heap.size + 1, 0, none⟩ = some (.int .i64 (24 + rel)) := by simp [World.cell?, hI.old _ _ v1 (by omega) (by omega)]
        have x0 : W.cell? ⟨Bx, 0, none⟩ = some (.int .i64 (endAt ks k : Nat)) := by simp [World.cell?, hBx]
        have x1 : W.cell? ⟨Bx, 1, none⟩ = some (.int .i64 (szAt ks k : Nat)) := by simp [World.cell?, hBx]
        have x2 : W.cell? ⟨Bx, 2, none⟩ = some (.slice (some ⟨g, posAt ks k + 7, none⟩) 1 (c - (posAt ks k + 7))) := by simp [World.cell?, hBx]
        have cz : W.cell? ⟨b, off + pre.length, none⟩ = some (.int .u16 (ss[pre.length] : Nat)) :=
          hI.cell ((hBw.cell (p := ⟨b, off + pre.length, none⟩) hbw).trans (HL.out _ hnl)) (by omega) (by omega)
        have hke := HKE.out k hk
        have hsk : szAt ks k = (ks[k]).size := by simp [szAt, List.getD, List.getElem?_eq_getElem hk]
        have ck : W.cell? ⟨g, posAt ks k + 7, none⟩ = some (.int .u8 (97 + (k : Int) % 26)) := by
          have h7 : (bufOf ks)[posAt ks k + 7]? = some ((97 + k % 26).toUInt8) := by
            rw [at_entry hk 7 (by rw [enc_length, hke]; simp [entOf])]
            rw [hke]
            rfl
          have := hRd.byte h7
          rw [letter] at this
          exact hI.cell this (by omega) (by omega)
        have HSK : Hid (szAt ks k = ss.getD k 0) := by show _ = _; rw [hsk, hke]; rfl
        have HRIGHT : Hid (k = pre.length → (endAt ks k : Int) < 24 + rel) := by
          intro e
          rw [hend.out k (by omega)]
          exact HC.out.2.1 k (by omega)
        clear hke hsk hRd
        have hend2 := end_plain hkp pre.length
        have hend3 := end_plain hkp k
        have hsi : ss[pre.length] < 65536 := hsz _ (List.getElem_mem hnl)
        have wz : IntKind.i64.wrap (ss[pre.length] : Int) = (ss[pre.length] : Int) := IntWalk.i64_in _ (by omega)
        gi_wp2_with fail
        by_cases c1 : (endAt ks k : Int) = (endAt ks pre.length : Int)
        · have d1 : ((endAt ks k : Int) != (endAt ks pre.length : Int)) = false := by simp; omega
          have C1 : Hid ((endAt ks k : Int) = (endAt ks pre.length : Int)) := c1
          clear c1
          by_cases c2 : (24 : Int) + rel ≤ (endAt ks k : Int)
          · have d2 : decide ((24 : Int) + rel ≤ (endAt ks k : Int)) = true := by simp; omega
            have hRW : k ≠ pre.length := by intro e; have := HRIGHT.out e; omega
            refine Round.region_round (by kernel_rfl) (by kernel_rfl) (by kernel_rfl) ?_
            repeat (go_big_quiet_step (fail))
            refine wpQuiet_nil ?_
            intro _ hw'
            obtain ⟨nq, hw''⟩ := hw'
            subst hw''
            gi_wp2
            refine ⟨((keeps_drewN W nq).trans (KeepsOthers.setCell _ _ _)).from _, rfl, ?_⟩
            exact wrong_prefix hRW
          · have d2 : decide ((24 : Int) + rel ≤ (endAt ks k : Int)) = false := by simp; omega
            by_cases c3 : (szAt ks k : Int) = (ss[pre.length] : Int)
            · have d3 : ((szAt ks k : Int) != (ss[pre.length] : Int)) = false := by simp; omega
              have C3 : Hid ((szAt ks k : Int) = (ss[pre.length] : Int)) := c3
              clear c3
              refine Round.region_round (by kernel_rfl) (by kernel_rfl) (by kernel_rfl) ?_
              repeat (go_big_quiet_step (fail))
              refine wpQuiet_nil ?_
              intro _ hw'
              obtain ⟨nq, hw''⟩ := hw'
              subst hw''
              gi_wp2_with fail
              · have hx : (97 + (k : Int) % 26 != 97 + (pre.length : Int) % 26) = true := by assumption
                have hRW : k ≠ pre.length := by intro e; subst e; simp at hx
                refine ⟨((keeps_drewN W nq).trans (KeepsOthers.setCell _ _ _)).from _, rfl, ?_⟩
                exact wrong_prefix hRW
              · have mixed : Yba.prog.follows .mixedOrders = true := by kernel_rfl
                have wa : IntKind.i64.wrap ((endAt ks pre.length : Int) + (ss[pre.length] : Int)) = (endAt ks pre.length : Int) + (ss[pre.length] : Int) := IntWalk.i64_in _ (by omega)
                have hkn : pre.length < ks.length := hlt
                have hadv : Hid (endAt ks (pre.length + 1) = endAt ks pre.length + ss[pre.length]) := by
                  show _ = _
                  rw [endAt_succ hkn, HKE.out _ hkn]
                  simp [entOf, List.getD, List.getElem?_eq_getElem hnl]
                clear hkj
                gi_region_with_o (fail)
                all_goals
                  gi_wp2
                  have hM := ((hI.drewN (nq + 1)).setP ((endAt ks pre.length : Int) + (ss[pre.length] : Int))).setN ((pre.length : Int) + 1)
                  refine ⟨(((keeps_drewN W (nq + 1)).trans (KeepsOthers.setCell _ _ _)).trans (KeepsOthers.setCell _ _ _)).from _, hI.kp hM (by omega) (by omega) (by omega) ⟨by omega, by omega⟩ ⟨by omega, by omega⟩ ⟨by omega, by omega⟩, ?_⟩
                  exact mid_next hM hadv.out
            · have d3 : ((szAt ks k : Int) != (ss[pre.length] : Int)) = true := by simp; omega
              have hRW : k ≠ pre.length := by
                intro e
                subst e
                have := HSK.out
                rw [List.getD_eq_getElem?_getD, List.getElem?_eq_getElem hnl] at this
                simp at this
                omega
              clear c3
              refine Round.region_round (by kernel_rfl) (by kernel_rfl) (by kernel_rfl) ?_
              repeat (go_big_quiet_step (fail))
              refine wpQuiet_nil ?_
              intro _ hw'
              obtain ⟨nq, hw''⟩ := hw'
              subst hw''
              gi_wp2
              refine ⟨((keeps_drewN W nq).trans (KeepsOthers.setCell _ _ _)).from _, rfl, ?_⟩
              exact wrong_prefix hRW
        · have d1 : ((endAt ks k : Int) != (endAt ks pre.length : Int)) = true := by simp; omega
          have hRW : k ≠ pre.length := by intro e; rw [e] at c1; exact c1 rfl
          clear c1
          refine Round.region_round (by kernel_rfl) (by kernel_rfl) (by kernel_rfl) ?_
          repeat (go_big_quiet_step (fail))
          refine wpQuiet_nil ?_
          intro _ hw'
          obtain ⟨nq, hw''⟩ := hw'
          subst hw''
          gi_wp2
          refine ⟨((keeps_drewN W nq).trans (KeepsOthers.setCell _ _ _)).from _, rfl, ?_⟩
          exact wrong_prefix hRW
      case done =>
        rintro D xs W hD hS hI hK
        have hxl : xs.length = ks.length := by have := congrArg List.length hS; simpa using this
        rw [hxl] at hI
        clear hS hxl
        subst hT
        have cn : W.cell? ⟨N0, 0, none⟩ = some (.int .i64 (ks.length : Nat)) := by simp [World.cell?, hI.nb]
        have cp : W.cell? ⟨N0 + 1, 0, none⟩ = some (.int .i64 (endAt ks ks.length : Nat)) := by simp [World.cell?, hI.pb]
        have co : W.cell? ⟨N0 + 1 + 1, 0, none⟩ = some (.bool true) := by simp [World.cell?, hI.old _ _ vo (by omega) (by omega)]
        have cs : W.cell? ⟨w.heap.size, 0, none⟩ = some (.slice a0 ss.length cap) := by simp [World.cell?, hI.old _ _ v0 (by omega) (by omega)]
        have cf : W.cell? ⟨w.heap.size + 1, 0, none⟩ = some (.int .i64 (24 + rel)) := by simp [World.cell?, hI.old _ _ v1 (by omega) (by omega)]
        have hblkW : W.heap[hb]? = some (.cells #[.slice (some ⟨g, 0, none⟩) (bufOf ks).length c, .int .i64 (endAt es j : Nat)] 37 (0, 0)) := hI.old _ _ hRd.blk (by omega) (by omega)
        have hrowW := row_mid hI hRd.row (by omega) (by omega)
        have hbelW : Below w.heap.size w W := hBw.trans (hI.below (by omega) (by omega))
        have hzW : V.heap.size ≤ W.heap.size := hI.size
        have HKL : Hid (ks.length = j) := hkl
        have hee : Hid (endAt ks ks.length = endAt es j) := by have := hkl.out; rw [this]; exact hend.out j (Nat.le_refl _)
        have hDb : D ≠ hb := by intro e; rw [e, hblkW] at hK; cases hK
        have hDlt : D < W.heap.size := (Array.getElem?_eq_some_iff.1 hK).1
        rw [← hee.out] at hblkW
        clear hI hRd vn vp vo v0 v1 hBw
        have hec := end_plain hkp ks.length
        have hlc := len_le hkp.fine
        have hcapc : (bufOf ks).length ≤ c := by
          rcases hrowW.2 with ⟨h, _⟩ | ⟨_, _, _, h, _, _, h1, _⟩
          · simp at h
          · simp at h; omega
        have ce : W.cell? ⟨hb, 1, none⟩ = some (.int .i64 (endAt ks ks.length : Nat)) := by simp [World.cell?, hblkW]
        have cb : W.cell? ⟨hb, 0, none⟩ = some (.slice (some ⟨g, 0, none⟩) (bufOf ks).length c) := by simp [World.cell?, hblkW]
        have qe : Hid (∀ m, Calls Yba.prog 18 #[.pointer (some ⟨hb, 0, none⟩)] (W.drewN m) fun e w' => e = .returned (.int .i64 (endAt ks ks.length : Nat)) ∧ w' = W.drewN m) := fun m => endOf hb _ _ (by simpa using ce)
        have hstop : (ks.length : Int) < (ss.length : Int) → ¬ (endAt ks ks.length : Int) < 24 + rel := by
          intro h
          have h1 := HC.out.2.2 (by have := HKL.out; have := HEL.out; omega)
          rw [hee.out]
          omega
        have HR : Hid (W.ownsRow w.heap.size 5 1 (.slice (some ⟨g, 0, none⟩) (bufOf ks).length c) (bufOf ks).length (Lib.byteCells (bufOf ks))) := hrowW
        have HBk : Hid (W.heap[hb]? = some (.cells #[.slice (some ⟨g, 0, none⟩) (bufOf ks).length c, .int .i64 (endAt ks ks.length : Nat)] 37 (0, 0))) := hblkW
        have HD : Hid (W.heap[D]? = some (.deferred (some []))) := hK
        clear hrowW hblkW hK
        have HWHOLE : Hid (IsCut ks (24 + rel) ks.length) := by
          refine ⟨Nat.le_refl _, fun t ht => ?_, fun h => absurd h (Nat.lt_irrefl _)⟩
          rw [hend.out t (by have := HKL.out; omega)]
          exact HC.out.2.1 t (by have := HKL.out; omega)
        by_cases hsl : (ks.length : Int) < (ss.length : Int)
        · have hno := hstop hsl
          clear hstop hend
          go_wp2_with fail
          go_quiet ((go_at_call 18; exact Calls.quiet_of_same (qe.out _)))
          go_wp2_with fail
          refine (cut w.heap.size hb g c ks (24 + rel) (endAt ks ks.length : Nat) (W.drewN nq) hkp.fine hkl2 (by exact HBk.out) (row_drewN HR.out nq)).mono ?_
          rintro e w7 ⟨rfl, i7, hcut7, hblk7, hg7⟩
          have hi7 : i7 = ks.length := IsCut.unique hcut7 HWHOLE.out
          subst hi7
          rw [posAt_all] at hblk7
          have ce7 : w7.cell? ⟨hb, 1, none⟩ = some (.int .i64 (endAt ks ks.length : Nat)) := by simp [World.cell?, hblk7]
          have cb7 : w7.cell? ⟨hb, 0, none⟩ = some (.slice (some ⟨g, 0, none⟩) (bufOf ks).length c) := by simp [World.cell?, hblk7]
          have cp7 : w7.cell? ⟨N0 + 1, 0, none⟩ = some (.int .i64 (endAt ks ks.length : Nat)) := hg7.cell (a := ⟨N0 + 1, 0, none⟩) (by simpa using cp) (by simp; omega)
          have qe7 : Hid (∀ m, Calls Yba.prog 18 #[.pointer (some ⟨hb, 0, none⟩)] (w7.drewN m) fun e w' => e = .returned (.int .i64 (endAt ks ks.length : Nat)) ∧ w' = w7.drewN m) := fun m => endOf hb _ _ (by simpa using ce7)
          have HD7 : Hid (w7.heap[D]? = some (.deferred (some []))) := (hg7.block D hDlt (by simp; exact hDb)).trans HD.out
          have hB7 : Below w.heap.size w w7 := (hbelW.trans ⟨rfl, rfl, rfl, Nat.le_refl _, fun _ _ => rfl⟩ : Below w.heap.size w (W.drewN nq)).grown hg7 (by show w.heap.size ≤ W.heap.size; omega) (by intro k hk; simp at hk; omega)
          clear hblk7 hg7 hcut7 qe ce cb cp cn co cs cf
          have hee : ((endAt ks ks.length : Int) == (endAt ks ks.length : Int)) = true := by simp
          go_wp2_with fail
          go_quiet ((go_at_call 18; exact Calls.quiet_of_same (qe7.out _)))
          go_wp2
          refine ⟨by simp, .inl ⟨_, _, rfl, run_takeDeferred (by exact HD7.out), ?_⟩⟩
          refine ⟨_, results_tmp rfl _ _ _, rfl, ?_⟩
          exact (hB7.trans ⟨rfl, rfl, rfl, Nat.le_refl _, fun _ _ => rfl⟩ : Below w.heap.size w (w7.drewN _)).trans (belowK_b (w := V) (by omega) _ D _ _ hD (by exact HD7.out) rfl rfl)
        · clear hstop hend
          go_wp2_with fail
          go_quiet ((go_at_call 18; exact Calls.quiet_of_same (qe.out _)))
          go_wp2_with fail
          refine (cut w.heap.size hb g c ks (24 + rel) (endAt ks ks.length : Nat) (W.drewN nq) hkp.fine hkl2 (by exact HBk.out) (row_drewN HR.out nq)).mono ?_
          rintro e w7 ⟨rfl, i7, hcut7, hblk7, hg7⟩
          have hi7 : i7 = ks.length := IsCut.unique hcut7 HWHOLE.out
          subst hi7
          rw [posAt_all] at hblk7
          have ce7 : w7.cell? ⟨hb, 1, none⟩ = some (.int .i64 (endAt ks ks.length : Nat)) := by simp [World.cell?, hblk7]
          have cb7 : w7.cell? ⟨hb, 0, none⟩ = some (.slice (some ⟨g, 0, none⟩) (bufOf ks).length c) := by simp [World.cell?, hblk7]
          have cp7 : w7.cell? ⟨N0 + 1, 0, none⟩ = some (.int .i64 (endAt ks ks.length : Nat)) := hg7.cell (a := ⟨N0 + 1, 0, none⟩) (by simpa using cp) (by simp; omega)
          have qe7 : Hid (∀ m, Calls Yba.prog 18 #[.pointer (some ⟨hb, 0, none⟩)] (w7.drewN m) fun e w' => e = .returned (.int .i64 (endAt ks ks.length : Nat)) ∧ w' = w7.drewN m) := fun m => endOf hb _ _ (by simpa using ce7)
          have HD7 : Hid (w7.heap[D]? = some (.deferred (some []))) := (hg7.block D hDlt (by simp; exact hDb)).trans HD.out
          have hB7 : Below w.heap.size w w7 := (hbelW.trans ⟨rfl, rfl, rfl, Nat.le_refl _, fun _ _ => rfl⟩ : Below w.heap.size w (W.drewN nq)).grown hg7 (by show w.heap.size ≤ W.heap.size; omega) (by intro k hk; simp at hk; omega)
          clear hblk7 hg7 hcut7 qe ce cb cp cn co cs cf
          have hee : ((endAt ks ks.length : Int) == (endAt ks ks.length : Int)) = true := by simp
          go_wp2_with fail
          go_quiet ((go_at_call 18; exact Calls.quiet_of_same (qe7.out _)))
          go_wp2
          refine ⟨by simp, .inl ⟨_, _, rfl, run_takeDeferred (by exact HD7.out), ?_⟩⟩
          refine ⟨_, results_tmp rfl _ _ _, rfl, ?_⟩
          exact (hB7.trans ⟨rfl, rfl, rfl, Nat.le_refl _, fun _ _ => rfl⟩ : Below w.heap.size w (w7.drewN _)).trans (belowK_b (w := V) (by omega) _ D _ _ hD (by exact HD7.out) rfl rfl)
      case stop =>
        rintro D c' pre W hD hSp ⟨_, hn⟩ hK
        exact absurd hSp hn
end Go.Proofs.Ybulkcmey.Rec
