/-
  newClearing, as it is asked.
-/
import Derived.Test.YbulkcmrwSt
namespace Go.Proofs.Ybulkcmrw.W
open Go Go.RowKit Go.Proofs.Ybulkcmrw.Mem Go.Proofs.Ybulkcmrw.G Go.Proofs.Ybulkcmrw.Inv

set_option maxHeartbeats 8000000 in
set_option maxRecDepth 100000 in
theorem newOk : NewOk := by
  intro g c l w hm hc
  obtain ⟨i9, hi9, hz90, hz91, hz92⟩ := info_parts info9
  have HC : Hid (∀ j u, (cellsD l)[j]? = some u → w.cell? ⟨g, j, none⟩ = some u) := hc
  clear hc
  go_enter Yba.func5, Yba.ntmps5
  go_wp2_with fail
  refine (clone13 g l.length c (cellsD l) w (cellsD_length l) (by omega) HC.out (fun u hu => ?_)).mono ?_
  · obtain ⟨x, _, hx⟩ := List.mem_flatMap.1 hu
    simp [encD] at hx
    rcases hx with rfl | rfl | rfl <;> rfl
  rintro e w1 ⟨g1, c1, rfl, ho1, hb1⟩
  have HO1 : Hid (w1.ownsRow w.heap.size 29 3 (.slice (some ⟨g1, 0, none⟩) l.length c1) l.length (cellsD l)) := ho1
  have HB1 : Hid (Below w.heap.size w w1) := hb1
  have hgge : w.heap.size ≤ g1 := (ho1.lt g1 rfl).1
  clear ho1 hb1 HC
  go_wp2_with fail
  refine (sortD w.heap.size g1 c1 l w1 HO1.out hm).mono ?_
  rintro e w2 ⟨rfl, hg2, hty2, l', hl', hd2⟩
  obtain ⟨m, hme⟩ : ∃ m, l.length = m := ⟨_, rfl⟩
  rw [hme] at hm hl' ⊢
  have HB2 : Hid (Below w.heap.size w w2) := HB1.out.grown hg2 HB1.out.size (fun k hk => by simp at hk; omega)
  have HD2 : Hid (∀ j (h : j < l'.length), LiesD w2 g1 l'[j] j) := hd2
  have HT2 : Hid (∃ cur, w2.heap[g1]? = some (.cells cur 29 (0, 0))) := hty2
  clear hg2 hd2 hty2 HO1 HB1 hme
  go_upto_block 0 with fail
  have hP : Pre w (w2.alloc (.cells #[.slice none 0 0] 38)) g1 w2.heap.size l' [] (.slice none 0 0) := by
    have hba := HB2.out.alloc HB2.out.size (.cells #[.slice none 0 0] 38)
    obtain ⟨cur, hcur⟩ := HT2.out
    have eb : (w2.alloc (.cells #[.slice none 0 0] 38)).heap[g1]? = w2.heap[g1]? := Below.heap_alloc _ _ _ (Array.getElem?_eq_some_iff.1 hcur).1
    exact ⟨hba, fun j hj => (HD2.out j hj).of_block eb, ⟨cur, eb.trans hcur⟩, World.rowIs_alloc w2 #[.slice none 0 0] 38 _ (fun i hi => by simp at hi; simp [hi]), World.ownsRow_nil _ _ _ _, hgge, HB2.out.size⟩
  obtain ⟨bn, hbn⟩ : ∃ bn, w2.heap.size = bn := ⟨_, rfl⟩
  rw [hbn] at hP ⊢
  have HP : Hid (Pre w (w2.alloc (.cells #[.slice none 0 0] 38)) g1 bn l' [] (.slice none 0 0)) := hP
  clear hP hbn HB2 HD2 HT2
  generalize w2.alloc (.cells #[.slice none 0 0] 38) = w3 at *
  go_cut [] (fun wx => ∃ nv, Pre w wx g1 bn l' (nms l') nv)
  case first =>
    go_wp2_with fail
    go_loopg [22] m (fun gk iv wr => ∃ i : Nat, i + gk = m ∧ iv = .int .i64 (i : Nat) ∧ ∃ nv, Pre w wr g1 bn l' (nms (l'.take i)) nv)
    case atStart => exact ⟨0, by omega, rfl, _, by simpa [nms] using HP.out⟩
    case round =>
      obtain ⟨i, hi, rfl, nv, hp⟩ := hrel
      have HI : Hid (i + gk = m) := hi
      have HPR : Hid (Pre w wr g1 bn l' (nms (l'.take i)) nv) := hp
      have hle : i ≤ m := by omega
      clear hi hp
      by_cases hlt : i < m
      · have hI : (i : Int) < (m : Int) := by omega
        obtain ⟨x, hxe⟩ : ∃ x, l'[i]'(by omega) = x := ⟨_, rfl⟩
        have hL := HPR.out.deb i (by omega)
        rw [hxe] at hL
        have c0 := hL.c0
        have c1' := hL.c1
        have c2 := hL.c2
        have HXE : Hid (l'[i]'(by omega) = x) := hxe
        clear hL hxe
        obtain ⟨s1, hs1⟩ : ∃ s, ByteArray.mk x.1.toArray = s := ⟨_, rfl⟩
        obtain ⟨s2, hs2⟩ : ∃ s, ByteArray.mk x.2.1.toArray = s := ⟨_, rfl⟩
        rw [hs1] at c0
        rw [hs2] at c1'
        have HS1 : Hid (ByteArray.mk x.1.toArray = s1) := hs1
        have HS2 : Hid (ByteArray.mk x.2.1.toArray = s2) := hs2
        clear hs1 hs2
        go_upto_region 7 with fail
        have hPW := HPR.out.alloc (.cells #[.string s1, .string s2, .int .i64 x.2.2] 29)
        have e0 : (wr.alloc (.cells #[.string s1, .string s2, .int .i64 x.2.2] 29)).cell? ⟨wr.heap.size, 0, none⟩ = some (.string s1) := by simp
        have e1 : (wr.alloc (.cells #[.string s1, .string s2, .int .i64 x.2.2] 29)).cell? ⟨wr.heap.size, 1, none⟩ = some (.string s2) := by simp
        generalize wr.alloc (.cells #[.string s1, .string s2, .int .i64 x.2.2] 29) = W at *
        have HPW : Hid (Pre w W g1 bn l' (nms (l'.take i)) nv) := hPW
        have v0 := hPW.var.cell (i := 0) (by omega)
        have hown := (hPW.alloc (.cells #[.string s1, .string s2] 9)).own
        have hlen : (nms (l'.take i)).length = i * 2 := by rw [nms_length, List.length_take]; omega
        have hws : w.heap.size ≤ W.heap.size := hPW.bel.size
        have HST : Hid (∀ (v2 : Value) (w4 : World), w4.ownsRow w.heap.size 9 1 v2 (i * 2 + 2) (ks2 (nms (l'.take i)) ++ [.string s1, .string s2]) → (W.alloc (.cells #[.string s1, .string s2] 9)).grownBy w4 nv.ownBlock → w4.cell? ⟨bn, 0, none⟩ = some nv ∧ w4.frozen? ⟨bn, 0, none⟩ = false ∧ Pre w (w4.setCell ⟨bn, 0, none⟩ v2) g1 bn l' (nms (l'.take (i + 1))) v2) := by
          intro v2 w4 ho hg
          have e : nms (l'.take (i + 1)) = nms (l'.take i) ++ [x.1, x.2.1] := by
            rw [List.take_succ_eq_append_getElem (by omega), HXE.out, nms, nms, List.flatMap_append]
            simp
          have e2 : ks2 (nms (l'.take (i + 1))) = ks2 (nms (l'.take i)) ++ [.string s1, .string s2] := by
            rw [e, ks2, ks2, List.map_append, ← HS1.out, ← HS2.out]
            rfl
          refine (HPW.out.alloc _).stored hg ?_
          rw [e2, e, List.length_append, hlen]
          exact ho
        have HOWN : Hid _ := hown
        clear hPW hown c0 c1' c2
        go_wp2_with (at_builtin; refine wpList_append_own _ rfl (.tmp 26) (.tmp 31) 38 rfl w.heap.size 9 i9 (.string ⟨#[]⟩) 1 16 Yba.underlying38 hi9 hz90 hz91 hz92 rfl (by decide) nv _ _ rfl HOWN.out _ 2 2 [.string s1, .string s2] rfl rfl (new2 _ _ _ _) (by intro y hy; simp at hy; rcases hy with rfl | rfl <;> rfl) ?d1 ?d2 ?d3 ?_)
        case d1 => rw [hlen]; unfold maxLen; omega
        case d2 => rw [hlen]; omega
        case d3 => simp; omega
        intro v4 w4 ho4 hg4 _
        obtain ⟨q0, q1, q2⟩ := HST.out v4 w4 ho4 hg4
        obtain ⟨g4, c4, rfl⟩ := row_some (n := i * 2 + 1) ho4
        have HQ2 : Hid (Pre w (w4.setCell ⟨bn, 0, none⟩ _) g1 bn l' (nms (l'.take (i + 1))) _) := q2
        clear ho4 hg4 q2 HST HOWN
        go_wp2
        go_roundg (gk - 1)
        case measure => have := HI.out; omega
        case rel => exact ⟨i + 1, by have := HI.out; omega, by go_num, _, HQ2.out⟩
      · have hI : ¬ (i : Int) < (m : Int) := by omega
        have hie : i = m := by omega
        go_wp2_with fail
        go_meet
        refine ⟨nv, ?_⟩
        have h1 := HPR.out
        rw [hie, ← hl', List.take_length] at h1
        exact h1
  case rest =>
    obtain ⟨nv, hp⟩ := hcut
    clear HP
    rename World => w4
    have hn4 : (nms l').length = m * 2 := by rw [nms_length, hl']
    have v0 := hp.var.cell (i := 0) (by omega)
    have HSO : Hid (Calls Yba.prog 18 _ w4 _) := sortN w.heap.size nv (nms l') w4 hp.own (by omega)
    have HP4 : Hid (Pre w w4 g1 bn l' (nms l') nv) := hp
    clear hp
    go_wp2_with fail
    refine HSO.out.mono ?_
    rintro e w5 ⟨rfl, hg5, ho5⟩
    obtain ⟨zs, hzs⟩ : ∃ zs, ((nms l').mergeSort fun x y => decide (x ≤ y)) = zs := ⟨_, rfl⟩
    have hzl : zs.length = (nms l').length := by rw [← hzs, List.length_mergeSort]
    rw [hzs, ← hzl] at ho5
    have hp5 := HP4.out.turned hg5 ho5
    have v1 := hp5.var.cell (i := 0) (by omega)
    have HCO : Hid (Calls Yba.prog 19 _ w5 _) := compN w.heap.size nv zs w5 ho5 (by omega)
    have HP5 : Hid (Pre w w5 g1 bn l' zs nv) := hp5
    have HZS : Hid (((nms l').mergeSort fun x y => decide (x ≤ y)) = zs) := hzs
    clear hp5 hg5 ho5 HSO HP4 v0 hzs
    go_wp2_with fail
    refine HCO.out.mono ?_
    rintro e w6 ⟨v6, rfl, hg6, ho6⟩
    obtain ⟨ks, hks⟩ : ∃ ks, Lib.compact zs = ks := ⟨_, rfl⟩
    rw [hks] at ho6
    obtain ⟨q0, q1, hp6⟩ := HP5.out.stored hg6 ho6
    have hmem : mem l' = ks := by rw [mem, HZS.out, hks]
    have HKS : Hid (mem l' = ks) := hmem
    have HP6 : Hid (Pre w (w6.setCell ⟨bn, 0, none⟩ v6) g1 bn l' ks v6) := hp6
    have hkl : ks.length ≤ m * 2 := by rw [← hmem, ← hl']; exact mem_length l'
    obtain ⟨na, nc, rfl⟩ : ∃ na nc, v6 = .slice na ks.length nc := by
      rcases ho6.2 with ⟨rfl, h0⟩ | ⟨g', cp, cur, rfl, _⟩
      · exact ⟨none, 0, by rw [h0]⟩
      · exact ⟨_, cp, rfl⟩
    clear hmem hks hp6 hg6 ho6 HCO HP5 HZS v1
    go_upto_region 11 with fail
    generalize w6.setCell ⟨bn, 0, none⟩ (.slice na ks.length nc) = w7 at *
    have v0 := HP6.out.var.cell (i := 0) (by omega)
    obtain ⟨n, hn⟩ : ∃ n, ks.length = n := ⟨_, rfl⟩
    rw [hn] at v0 hkl HP6 ⊢
    have HN : Hid (ks.length = n) := hn
    clear hn q0 q1
    have y1 : IntKind.i32.wrap (n : Int) = (n : Int) := by rw [IntKind.wrap_i32]; omega
    go_upto_region 12 with fail
    go_quiet (fail)
    go_upto_region 13 with fail
    have y6 : IntKind.i64.wrap (6 * (m : Int)) = 6 * (m : Int) := IntWalk.i64_in _ (by omega)
    have y2 : IntKind.i32.wrap ((n : Int) + 2) = (n : Int) + 2 := by rw [IntKind.wrap_i32]; omega
    have y3 : IntKind.i32.wrap ((n : Int) + 1) = (n : Int) + 1 := by rw [IntKind.wrap_i32]; omega
    have HP7 : Hid (Pre w (w7.drewN nq) g1 bn l' ks (.slice na n nc)) := HP6.out.drewN nq
    clear HP6 v0
    generalize w7.drewN nq = w8 at *
    go_cut [9] (fun cv wx => ∃ bcv bc bh br bq bf ba bp B1 CC, cv = .pointer (some ⟨bcv, 0, none⟩) ∧ Kon w bh bq bf bp B1 m n c1 g1 CC ∧ St w g1 bn l' ks (.slice na n nc) bcv bc bh br bq bf ba bp B1 m n CC 0 wx)
    case first =>
      refine wp_region_any (by kernel_rfl) ?_
      refine take_any (i := 0) (v := ?_) rfl (by kernel_rfl) (by kernel_rfl) (by kernel_rfl) (fun _ _ _ h => h) (Or.inl ⟨by rfl, ?_⟩) ?_
      rotate_left
      · (intro w; go_simp; try with_reducible rfl)
      try simp only [Act.put, List.setIfInBounds_toArray, List.set_cons_zero, List.set_cons_succ]
      refine take_any (i := 1) (v := ?_) rfl (by kernel_rfl) (by kernel_rfl) (by kernel_rfl) (fun _ _ _ h => h) (Or.inl ⟨by rfl, ?_⟩) ?_
      rotate_left
      · (intro w; go_simp; try with_reducible rfl)
      try simp only [Act.put, List.setIfInBounds_toArray, List.set_cons_zero, List.set_cons_succ]
      refine take_any (i := 3) (v := ?_) rfl (by kernel_rfl) (by kernel_rfl) (by kernel_rfl) (fun _ _ _ h => h) (Or.inl ⟨by rfl, ?_⟩) ?_
      rotate_left
      · (intro w; go_simp; try with_reducible rfl)
      try simp only [Act.put, List.setIfInBounds_toArray, List.set_cons_zero, List.set_cons_succ]
      refine take_any (i := 4) (v := ?_) rfl (by kernel_rfl) (by kernel_rfl) (by kernel_rfl) (fun _ _ _ h => h) (Or.inl ⟨by rfl, ?_⟩) ?_
      rotate_left
      · (intro w; go_simp; try with_reducible rfl)
      try simp only [Act.put, List.setIfInBounds_toArray, List.set_cons_zero, List.set_cons_succ]
      refine take_any (i := 6) (v := ?_) rfl (by kernel_rfl) (by kernel_rfl) (by kernel_rfl) (fun _ _ _ h => h) (Or.inl ⟨by rfl, ?_⟩) ?_
      rotate_left
      · (intro w; go_simp; try with_reducible rfl)
      try simp only [Act.put, List.setIfInBounds_toArray, List.set_cons_zero, List.set_cons_succ]
      refine take_any (i := 7) (v := ?_) rfl (by kernel_rfl) (by kernel_rfl) (by kernel_rfl) (fun _ _ _ h => h) (Or.inl ⟨by rfl, ?_⟩) ?_
      rotate_left
      · (intro w; go_simp; try with_reducible rfl)
      try simp only [Act.put, List.setIfInBounds_toArray, List.set_cons_zero, List.set_cons_succ]
      refine take_any (i := 11) (v := ?_) rfl (by kernel_rfl) (by kernel_rfl) (by kernel_rfl) (fun _ _ _ h => h) (Or.inl ⟨by rfl, ?_⟩) ?_
      rotate_left
      · (intro w; go_simp; try with_reducible rfl)
      try simp only [Act.put, List.setIfInBounds_toArray, List.set_cons_zero, List.set_cons_succ]
      refine take_any (i := 12) (v := ?_) rfl (by kernel_rfl) (by kernel_rfl) (by kernel_rfl) (fun _ _ _ h => h) (Or.inl ⟨by rfl, ?_⟩) ?_
      rotate_left
      · (intro w; go_simp; try with_reducible rfl)
      try simp only [Act.put, List.setIfInBounds_toArray, List.set_cons_zero, List.set_cons_succ]
      refine take_any (i := 14) (v := ?_) rfl (by kernel_rfl) (by kernel_rfl) (by kernel_rfl) (fun _ _ _ h => h) (Or.inl ⟨by rfl, ?_⟩) ?_
      rotate_left
      · (intro w; go_simp; try with_reducible rfl)
      try simp only [Act.put, List.setIfInBounds_toArray, List.set_cons_zero, List.set_cons_succ]
      refine take_any (i := 15) (v := ?_) rfl (by kernel_rfl) (by kernel_rfl) (by kernel_rfl) (fun _ _ _ h => h) (Or.inl ⟨by rfl, ?_⟩) ?_
      rotate_left
      · (intro w; go_simp; try with_reducible rfl)
      try simp only [Act.put, List.setIfInBounds_toArray, List.set_cons_zero, List.set_cons_succ]
      refine take_any (i := 16) (v := ?_) rfl (by kernel_rfl) (by kernel_rfl) (by kernel_rfl) (fun _ _ _ h => h) (Or.inl ⟨by rfl, ?_⟩) ?_
      rotate_left
      · (intro w; go_simp; try with_reducible rfl)
      try simp only [Act.put, List.setIfInBounds_toArray, List.set_cons_zero, List.set_cons_succ]
      refine take_any (i := 17) (v := ?_) rfl (by kernel_rfl) (by kernel_rfl) (by kernel_rfl) (fun _ _ _ h => h) (Or.inl ⟨by rfl, ?_⟩) ?_
      rotate_left
      · (intro w; go_simp; try with_reducible rfl)
      try simp only [Act.put, List.setIfInBounds_toArray, List.set_cons_zero, List.set_cons_succ]
      refine take_any (i := 18) (v := ?_) rfl (by kernel_rfl) (by kernel_rfl) (by kernel_rfl) (fun _ _ _ h => h) (Or.inl ⟨by rfl, ?_⟩) ?_
      rotate_left
      · (intro w; go_simp; try with_reducible rfl)
      try simp only [Act.put, List.setIfInBounds_toArray, List.set_cons_zero, List.set_cons_succ]
      refine take_any (i := 20) (v := ?_) rfl (by kernel_rfl) (by kernel_rfl) (by kernel_rfl) (fun _ _ _ h => h) (Or.inl ⟨by rfl, ?_⟩) ?_
      rotate_left
      · (intro w; go_simp; try with_reducible rfl)
      try simp only [Act.put, List.setIfInBounds_toArray, List.set_cons_zero, List.set_cons_succ]
      refine take_any (i := 21) (v := ?_) rfl (by kernel_rfl) (by kernel_rfl) (by kernel_rfl) (fun _ _ _ h => h) (Or.inl ⟨by rfl, ?_⟩) ?_
      rotate_left
      · (intro w; go_simp; try with_reducible rfl)
      try simp only [Act.put, List.setIfInBounds_toArray, List.set_cons_zero, List.set_cons_succ]
      refine take_any (i := 23) (v := ?_) rfl (by kernel_rfl) (by kernel_rfl) (by kernel_rfl) (fun _ _ _ h => h) (Or.inl ⟨by rfl, ?_⟩) ?_
      rotate_left
      · (intro w; go_simp; try with_reducible rfl)
      try simp only [Act.put, List.setIfInBounds_toArray, List.set_cons_zero, List.set_cons_succ]
      refine take_any (i := 24) (v := ?_) rfl (by kernel_rfl) (by kernel_rfl) (by kernel_rfl) (fun _ _ _ h => h) (Or.inl ⟨by rfl, ?_⟩) ?_
      rotate_left
      · (intro w; go_simp; try with_reducible rfl)
      try simp only [Act.put, List.setIfInBounds_toArray, List.set_cons_zero, List.set_cons_succ]
      refine makes (w0 := w8.drew) (nv := .slice na n nc) (dv := .slice (some ⟨g1, 0, none⟩) m c1) (m := m) (n := n) ?_ bn na (some ⟨g1, 0, none⟩) n nc m c1 rfl rfl hm (by omega) ?_ ?_ ?_ ?_ ?_ ?_ ?_ ?_ ?_ ?_ ?_ ?_ (by exact HP7.out.var.cell (i := 0) (by omega)) ?_ _ _ ?_ ?_ (chk1 ?_) (chk2 ?_)
      · exact ⟨by kernel_rfl, by kernel_rfl, ⟨_, rfl, rfl, rfl, rfl⟩, ⟨_, rfl, rfl, rfl, rfl⟩, ⟨_, rfl, rfl, rfl, rfl⟩, ⟨_, rfl, rfl, rfl, rfl, by kernel_rfl⟩, ⟨_, rfl, rfl, rfl, rfl⟩, ⟨_, rfl, rfl, rfl, rfl⟩, ⟨_, rfl, rfl, rfl, rfl⟩, ⟨_, rfl, rfl, rfl, rfl⟩, ⟨_, rfl, rfl, rfl, rfl⟩, ⟨_, rfl, rfl, rfl, rfl, by kernel_rfl⟩, ⟨_, rfl, rfl, rfl, rfl, by kernel_rfl⟩, ⟨_, rfl, rfl, rfl, rfl⟩, ⟨_, rfl, rfl, rfl, rfl, by kernel_rfl⟩⟩
      · kernel_rfl
      · rfl
      · rfl
      · rfl
      · rfl
      · rfl
      · rfl
      · rfl
      · rfl
      · rfl
      · rfl
      · rfl
      rotate_left
      · kernel_rfl
      · exact Nat.le_of_ble_eq_true (by kernel_rfl)
      · kernel_rfl
      · kernel_rfl
      intro a wx bh bo br bq bf ba bp bc bv hF
      have ha := hF.fr.out
      obtain ⟨x46, h46⟩ : ∃ x, a.eval (.tmp 46) = x := ⟨_, rfl⟩
      obtain ⟨x49, h49⟩ : ∃ x, a.eval (.tmp 49) = x := ⟨_, rfl⟩
      obtain ⟨x52, h52⟩ : ∃ x, a.eval (.tmp 52) = x := ⟨_, rfl⟩
      obtain ⟨x53, h53⟩ : ∃ x, a.eval (.tmp 53) = x := ⟨_, rfl⟩
      obtain ⟨x54, h54⟩ : ∃ x, a.eval (.tmp 54) = x := ⟨_, rfl⟩
      obtain ⟨x57, h57⟩ : ∃ x, a.eval (.tmp 57) = x := ⟨_, rfl⟩
      obtain ⟨x63, h63⟩ : ∃ x, a.eval (.tmp 63) = x := ⟨_, rfl⟩
      obtain ⟨x66, h66⟩ : ∃ x, a.eval (.tmp 66) = x := ⟨_, rfl⟩
      obtain ⟨x69, h69⟩ : ∃ x, a.eval (.tmp 69) = x := ⟨_, rfl⟩
      obtain ⟨x70, h70⟩ : ∃ x, a.eval (.tmp 70) = x := ⟨_, rfl⟩
      obtain ⟨x71, h71⟩ : ∃ x, a.eval (.tmp 71) = x := ⟨_, rfl⟩
      rw [DD] at ha
      simp only [List.foldr_cons, List.foldr_nil, hF.s9, h46, h49, h52, h53, h54, h57, h63, h66, h69, h70, h71] at ha
      have hfin := HP7.out.start hF (by omega)
      have HF : Hid _ := hfin
      clear hF hfin
      subst ha
      simp only [Act.put, List.setIfInBounds_toArray, List.set_cons_zero, List.set_cons_succ]
      go_wp2_with fail
      go_meet
      exact HF.out
    case rest =>
      obtain ⟨bcv, bc, bh, br, bq, bf, ba, bp, B1, CC, rfl, hk, hst⟩ := hcut
      have HK : Hid (Kon w bh bq bf bp B1 m n c1 g1 CC) := hk
      have HST : Hid (St w g1 bn l' ks (.slice na n nc) bcv bc bh br bq bf ba bp B1 m n CC 0 _) := hst
      clear hk hst HP7
      rename World => w9
      go_upto_block 2 with fail
      go_cut [] (fun wx => St w g1 bn l' ks (.slice na n nc) bcv bc bh br bq bf ba bp B1 m n CC m wx)
      case first =>
        go_wp2_with fail
        go_loopg [75] m (fun gk iv wr => ∃ i : Nat, i + gk = m ∧ iv = .int .i64 (i : Nat) ∧ St w g1 bn l' ks (.slice na n nc) bcv bc bh br bq bf ba bp B1 m n CC i wr)
        case atStart => exact ⟨0, by omega, rfl, HST.out⟩
        case round =>
          obtain ⟨i, hi, rfl, hf, rf, rows, harc, hsx⟩ := hrel
          have HI : Hid (i + gk = m) := hi
          have HA : Hid (Arcs n m (uOf l' ks) (vOf l' ks) (aOf l') i hf rf rows) := harc
          have HSX : Hid (Sx w g1 bn l' ks (.slice na n nc) bcv bc bh br bq bf ba bp B1 m n CC hf rf rows wr) := hsx
          have hle : i ≤ m := by omega
          clear hi harc hsx HST
          by_cases hlt : i < m
          · have hI : (i : Int) < (m : Int) := by omega
            obtain ⟨x, hxe⟩ : ∃ x, l'[i]'(by omega) = x := ⟨_, rfl⟩
            have hL := HSX.out.pre.deb i (by omega)
            rw [hxe] at hL
            have c0 := hL.c0
            have c1' := hL.c1
            have c2 := hL.c2
            have hmh := mem_has l' (j := i) (by omega)
            rw [hxe, HKS.out] at hmh
            have hxg : l'.getD i ([], [], 0) = x := by rw [List.getD_eq_getElem?_getD, List.getElem?_eq_getElem (by omega), hxe]; rfl
            have hrise : Rise ks := by rw [← HKS.out]; exact mem_rise l'
            have hW := HSX.out.alloc (.cells #[.string (ByteArray.mk x.1.toArray), .string (ByteArray.mk x.2.1.toArray), .int .i64 x.2.2] 29)
            have hbd := row3 wr (.string (ByteArray.mk x.1.toArray)) (.string (ByteArray.mk x.2.1.toArray)) (.int .i64 x.2.2) 29
            have N1 := hW.pre.num hrise (by rw [HN.out]; omega) x.1 hmh.1
            have N2 := hW.pre.num hrise (by rw [HN.out]; omega) x.2.1 hmh.2
            have hul : uOf l' ks i < n := by rw [uOf, hxg, ← HN.out]; exact List.idxOf_lt_length_of_mem hmh.1
            have hvl : vOf l' ks i < n := by rw [vOf, hxg, ← HN.out]; exact List.idxOf_lt_length_of_mem hmh.2
            have eu : uOf l' ks i = ks.idxOf x.1 := by rw [uOf, hxg]
            have ev : vOf l' ks i = ks.idxOf x.2.1 := by rw [vOf, hxg]
            have ea : aOf l' i = x.2.2 := by rw [aOf, hxg]
            obtain ⟨uu, huu⟩ : ∃ uu, ks.idxOf x.1 = uu := ⟨_, rfl⟩
            obtain ⟨vv, hvv⟩ : ∃ vv, ks.idxOf x.2.1 = vv := ⟨_, rfl⟩
            rw [huu] at N1 eu
            rw [hvv] at N2 ev
            rw [eu] at hul
            rw [ev] at hvl
            obtain ⟨s1, hs1⟩ : ∃ s, ByteArray.mk x.1.toArray = s := ⟨_, rfl⟩
            obtain ⟨s2, hs2⟩ : ∃ s, ByteArray.mk x.2.1.toArray = s := ⟨_, rfl⟩
            obtain ⟨aa, haa⟩ : ∃ a, x.2.2 = a := ⟨_, rfl⟩
            rw [haa] at ea
            rw [hs1] at c0
            rw [hs2] at c1'
            rw [haa] at c2
            rw [hs1, hs2, haa] at hW hbd
            rw [hs1, hs2, haa] at N1
            rw [hs1, hs2, haa] at N2
            have EU : Hid (uOf l' ks i = uu) := eu
            have EV : Hid (vOf l' ks i = vv) := ev
            have EA : Hid (aOf l' i = aa) := ea
            have HN1 : Hid _ := N1
            have HN2 : Hid _ := N2
            have HW : Hid _ := hW
            have HBD : Hid _ := hbd
            clear N1 N2 hW hbd hL hmh hxg hrise eu ev ea huu hvv hs1 hs2 haa hxe HSX
            go_upto_region 18 with fail
            have e0 : (wr.alloc (.cells #[.string s1, .string s2, .int .i64 aa] 29)).cell? ⟨wr.heap.size, 0, none⟩ = some (.string s1) := by simp
            have e1 : (wr.alloc (.cells #[.string s1, .string s2, .int .i64 aa] 29)).cell? ⟨wr.heap.size, 1, none⟩ = some (.string s2) := by simp
            generalize wr.alloc (.cells #[.string s1, .string s2, .int .i64 aa] 29) = W at *
            generalize wr.heap.size = bd at *
            clear c0 c1' c2
            go_quiet ((first | (go_at_call_of 20 (Value.string s1); exact Calls.quiet_of_same (HN1.out _)) | (go_at_call_of 20 (Value.string s2); exact Calls.quiet_of_same (HN2.out _))))
            have HX : Hid (Sx w g1 bn l' ks (.slice na n nc) bcv bc bh br bq bf ba bp B1 m n CC hf rf rows (W.drewN nq)) := HW.out.drewN nq
            have HBX : Hid ((W.drewN nq).rowIs bd 29 3 (fun j => [Value.string s1, Value.string s2, Value.int .i64 aa].getD j undef)) := HBD.out
            clear HN1 HN2 HW HBD e0 e1
            go_upto_region 19 with fail
            generalize W.drewN nq = X at *
            have k0 := HX.out.nc.var.cell (i := 0) (by omega)
            have k5 := HX.out.nc.cc.cell (i := 5) (by omega)
            rw [HK.out.c5] at k5
            obtain ⟨qf, hqf⟩ := HX.out.qq
            have kq := hqf.cell (i := i) hlt
            have kz := hqf.frozen i
            have HX2 : Hid (Sx w g1 bn l' ks (.slice na n nc) bcv bc bh br bq bf ba bp B1 m n CC hf rf rows (X.setCell ⟨bq, i, none⟩ (.int .i32 (vv : Nat)))) := HX.out.setQ HK.out i vv
            have HBX2 : Hid ((X.setCell ⟨bq, i, none⟩ (.int .i32 (vv : Nat))).rowIs bd 29 3 (fun j => [Value.string s1, Value.string s2, Value.int .i64 aa].getD j undef)) := HBX.out.setOther (a := ⟨bq, i, none⟩) (row_neq HBX.out hqf (by decide)) _
            clear hqf HX HBX
            go_upto_region 20 with fail
            clear k0 k5 kq kz
            generalize X.setCell ⟨bq, i, none⟩ (.int .i32 (vv : Nat)) = X2 at *
            have k0 := HX2.out.nc.var.cell (i := 0) (by omega)
            have k8 := HX2.out.nc.cc.cell (i := 8) (by omega)
            rw [HK.out.c8] at k8
            obtain ⟨ff, hff⟩ := HX2.out.ff
            have kf := hff.cell (i := uu + 1) (by omega)
            have kz := hff.frozen (uu + 1)
            have z1 : IntKind.i32.wrap ((uu : Int) + 1) = (uu : Int) + 1 := by rw [IntKind.wrap_i32]; omega
            have z2 : IntKind.i64.wrap ((i : Int) + 1) = (i : Int) + 1 := IntWalk.i64_in _ (by omega)
            have z3 : (uu : Int) + 1 < ((n + 1 : Nat) : Int) := by omega
            have HX3 : Hid (Sx w g1 bn l' ks (.slice na n nc) bcv bc bh br bq bf ba bp B1 m n CC hf rf rows (X2.setCell ⟨bf, uu + 1, none⟩ (.int .i64 ((i : Int) + 1)))) := HX2.out.setF HK.out (uu + 1) ((i : Int) + 1)
            have HBX3 : Hid ((X2.setCell ⟨bf, uu + 1, none⟩ (.int .i64 ((i : Int) + 1))).rowIs bd 29 3 (fun j => [Value.string s1, Value.string s2, Value.int .i64 aa].getD j undef)) := HBX2.out.setOther (a := ⟨bf, uu + 1, none⟩) (row_neq HBX2.out hff (by decide)) _
            clear hff HX2 HBX2
            go_upto_region 21 with fail
            clear k0 k8 kf kz z1 z3
            generalize X2.setCell ⟨bf, uu + 1, none⟩ (.int .i64 ((i : Int) + 1)) = X3 at *
            have kd : X3.cell? ⟨bd, 2, none⟩ = some (.int .i64 aa) := HBX3.out.cell (i := 2) (by omega)
            have t1 : IntKind.i64.wrap (2 * (i : Int)) = 2 * (i : Int) := IntWalk.i64_in _ (by omega)
            have sm0 : ∀ r ∈ rows, r.length ≤ 6 * i := HA.out.sml
            have e2i : ((2 * i : Nat) : Int) = 2 * (i : Int) := by omega
            have p1 := HX3.out.call HK.out (2 * i) uu vv 0 aa (by omega) (by omega) (by omega) hm (fun r hr => by have := sm0 r hr; omega)
            rw [e2i] at p1
            have HP1 : Hid (Calls Yba.prog 22 _ X3 _) := p1
            have SM1 : Hid (∀ r ∈ put (put rows uu (2 * i)) vv (2 * i + 1), r.length ≤ 10000) := fun r hr => by have := put_small (put_small sm0) r hr; omega
            have SM2 : Hid (∀ r ∈ put (put (put (put rows uu (2 * i)) vv (2 * i + 1)) n (2 * m + 2 * i)) vv (2 * m + 2 * i + 1), r.length ≤ 10000) := fun r hr => by have := put_small (put_small (put_small (put_small sm0))) r hr; omega
            clear p1 e2i sm0
            go_wp2_with fail
            refine HP1.out.mono ?_
            rintro e X4 ⟨rfl, hs4, hr4⟩
            have HX4 : Hid (Sx w g1 bn l' ks (.slice na n nc) bcv bc bh br bq bf ba bp B1 m n CC (updN (updN hf (2 * i) vv) (2 * i + 1) uu) (upd (upd rf (2 * i) 0) (2 * i + 1) aa) (put (put rows uu (2 * i)) vv (2 * i + 1)) X4) := hs4
            have HBX4 : Hid (X4.rowIs bd 29 3 (fun j => [Value.string s1, Value.string s2, Value.int .i64 aa].getD j undef)) := hr4 bd _ HBX3.out
            clear hs4 hr4 HX3 HBX3 HP1 kd
            go_upto_region 22 with fail
            have k0 := HX4.out.nc.var.cell (i := 0) (by omega)
            have k6 : X4.cell? ⟨bc, 6, none⟩ = some (.int .i32 (n : Nat)) := by have h6 := HX4.out.nc.cc.cell (i := 6) (by omega); rw [HK.out.c6] at h6; exact h6
            have kd : X4.cell? ⟨bd, 2, none⟩ = some (.int .i64 aa) := HBX4.out.cell (i := 2) (by omega)
            have t2 : IntKind.i64.wrap (2 * (m : Int)) = 2 * (m : Int) := IntWalk.i64_in _ (by omega)
            have t3 : IntKind.i64.wrap (2 * (m : Int) + 2 * (i : Int)) = 2 * (m : Int) + 2 * (i : Int) := IntWalk.i64_in _ (by omega)
            have hx4 : Sx w g1 bn l' ks (.slice na n nc) bcv bc bh br bq bf ba bp B1 m n CC (updN (updN hf (2 * i) vv) (2 * i + 1) uu) (upd (upd rf (2 * i) 0) (2 * i + 1) aa) (put (put rows uu (2 * i)) vv (2 * i + 1)) X4.drew := HX4.out.drewN 1
            have p2 := hx4.call HK.out (2 * m + 2 * i) n vv aa 0 (by omega) (by omega) (by omega) hm SM1.out
            rw [show ((2 * m + 2 * i : Nat) : Int) = 2 * (m : Int) + 2 * (i : Int) from by omega] at p2
            have HP2 : Hid (Calls Yba.prog 22 _ X4.drew _) := p2
            have HBX4' : Hid (X4.drew.rowIs bd 29 3 (fun j => [Value.string s1, Value.string s2, Value.int .i64 aa].getD j undef)) := HBX4.out
            clear p2 hx4
            go_region_held3 (fun w' => w'.cell? ⟨bcv, 0, none⟩ = some (.pointer (some ⟨bc, 0, none⟩)) ∧ w'.cell? ⟨bc, 6, none⟩ = some (.int .i32 (n : Nat)) ∧ w'.cell? ⟨bd, 2, none⟩ = some (.int .i64 aa)) (first | exact ⟨k0, k6, kd⟩ | exact ⟨hv5, h65, hd5⟩) (first | (go_at_call 22; refine HP2.out.mono ?_; rintro e X5 ⟨rfl, hs5, hr5⟩; have hv5 := hs5.nc.var.cell (i := 0) (by omega); have h65 : X5.cell? ⟨bc, 6, none⟩ = some (.int .i32 (n : Nat)) := (by have h6 := hs5.nc.cc.cell (i := 6) (by omega); rw [HK.out.c6] at h6; exact h6); have hd5 : X5.cell? ⟨bd, 2, none⟩ = some (.int .i64 aa) := (hr5 bd _ HBX4'.out).cell (i := 2) (by omega)))
            have HX5 : Hid (Sx w g1 bn l' ks (.slice na n nc) bcv bc bh br bq bf ba bp B1 m n CC (updN (updN (updN (updN hf (2 * i) vv) (2 * i + 1) uu) (2 * m + 2 * i) vv) (2 * m + 2 * i + 1) n) (upd (upd (upd (upd rf (2 * i) 0) (2 * i + 1) aa) (2 * m + 2 * i) aa) (2 * m + 2 * i + 1) 0) (put (put (put (put rows uu (2 * i)) vv (2 * i + 1)) n (2 * m + 2 * i)) vv (2 * m + 2 * i + 1)) X5) := hs5
            have HBX5 : Hid (X5.rowIs bd 29 3 (fun j => [Value.string s1, Value.string s2, Value.int .i64 aa].getD j undef)) := hr5 bd _ HBX4'.out
            clear hs5 hr5 HX4 HBX4 HBX4' HP2 k0 k6 kd t2 t3 hv5 h65 hd5
            go_upto_region 23 with fail
            have k0 := HX5.out.nc.var.cell (i := 0) (by omega)
            have k7 : X5.cell? ⟨bc, 7, none⟩ = some (.int .i32 ((n : Int) + 1)) := by have h7 := HX5.out.nc.cc.cell (i := 7) (by omega); rw [HK.out.c7] at h7; exact h7
            have kd : X5.cell? ⟨bd, 2, none⟩ = some (.int .i64 aa) := HBX5.out.cell (i := 2) (by omega)
            have t2 : IntKind.i64.wrap (4 * (m : Int)) = 4 * (m : Int) := IntWalk.i64_in _ (by omega)
            have t3 : IntKind.i64.wrap (4 * (m : Int) + 2 * (i : Int)) = 4 * (m : Int) + 2 * (i : Int) := IntWalk.i64_in _ (by omega)
            have hx5 : Sx w g1 bn l' ks (.slice na n nc) bcv bc bh br bq bf ba bp B1 m n CC (updN (updN (updN (updN hf (2 * i) vv) (2 * i + 1) uu) (2 * m + 2 * i) vv) (2 * m + 2 * i + 1) n) (upd (upd (upd (upd rf (2 * i) 0) (2 * i + 1) aa) (2 * m + 2 * i) aa) (2 * m + 2 * i + 1) 0) (put (put (put (put rows uu (2 * i)) vv (2 * i + 1)) n (2 * m + 2 * i)) vv (2 * m + 2 * i + 1)) X5.drew := HX5.out.drewN 1
            have p3 := hx5.call HK.out (4 * m + 2 * i) uu (n + 1) aa 0 (by omega) (by omega) (by omega) hm SM2.out
            rw [show ((4 * m + 2 * i : Nat) : Int) = 4 * (m : Int) + 2 * (i : Int) from by omega, show ((n + 1 : Nat) : Int) = (n : Int) + 1 from by omega] at p3
            have HP3 : Hid (Calls Yba.prog 22 _ X5.drew _) := p3
            have HBX5' : Hid (X5.drew.rowIs bd 29 3 (fun j => [Value.string s1, Value.string s2, Value.int .i64 aa].getD j undef)) := HBX5.out
            clear p3 hx5
            go_region_held3 (fun w' => w'.cell? ⟨bcv, 0, none⟩ = some (.pointer (some ⟨bc, 0, none⟩)) ∧ w'.cell? ⟨bc, 7, none⟩ = some (.int .i32 ((n : Int) + 1)) ∧ w'.cell? ⟨bd, 2, none⟩ = some (.int .i64 aa)) (first | exact ⟨k0, k7, kd⟩ | exact ⟨hv6, h76, hd6⟩) (first | (go_at_call 22; refine HP3.out.mono ?_; rintro e X6 ⟨rfl, hs6, hr6⟩; have hv6 := hs6.nc.var.cell (i := 0) (by omega); have h76 : X6.cell? ⟨bc, 7, none⟩ = some (.int .i32 ((n : Int) + 1)) := (by have h7 := hs6.nc.cc.cell (i := 7) (by omega); rw [HK.out.c7] at h7; exact h7); have hd6 : X6.cell? ⟨bd, 2, none⟩ = some (.int .i64 aa) := (hr6 bd _ HBX5'.out).cell (i := 2) (by omega)))
            have HX6 : Hid (Sx w g1 bn l' ks (.slice na n nc) bcv bc bh br bq bf ba bp B1 m n CC _ _ _ X6) := hs6
            have HAN : Hid (St w g1 bn l' ks (.slice na n nc) bcv bc bh br bq bf ba bp B1 m n CC (i + 1) X6) := by
              have ha := HA.out.step hlt (by rw [EU.out]; exact hul) (by rw [EV.out]; exact hvl)
              rw [EU.out, EV.out, EA.out] at ha
              exact ⟨_, _, _, ha, HX6.out⟩
            clear hs6 hr6 HX5 HX6 HBX5 HBX5' HP3 k0 k7 kd t2 t3 hv6 h76 hd6 HA SM1 SM2
            go_wp2
            go_roundg (gk - 1)
            case measure => have := HI.out; omega
            case rel => exact ⟨i + 1, by have := HI.out; omega, by go_num, HAN.out⟩
          · have hI : ¬ (i : Int) < (m : Int) := by omega
            have hie : i = m := by omega
            go_wp2_with fail
            go_meet
            have h1 := HA.out
            rw [hie] at h1
            exact ⟨hf, rf, rows, h1, HSX.out⟩
      case rest =>
        have HS2 : Hid (St w g1 bn l' ks (.slice na n nc) bcv bc bh br bq bf ba bp B1 m n CC m _) := hcut
        clear hcut HST
        rename World => w10
        go_upto_block 4 with fail
        go_cut [] (fun wx => St w g1 bn l' ks (.slice na n nc) bcv bc bh br bq bf ba bp B1 m n CC m wx)
        case first =>
          go_wp2_with fail
          go_loopg [15] n (fun gk iv wr => ∃ j : Nat, j + gk = n ∧ iv = .int .i64 ((j : Int) + 1) ∧ St w g1 bn l' ks (.slice na n nc) bcv bc bh br bq bf ba bp B1 m n CC m wr)
          case atStart => exact ⟨0, by omega, rfl, HS2.out⟩
          case round =>
            obtain ⟨j, hj, rfl, hf, rf, rows, harc, hsx⟩ := hrel
            have HJ : Hid (j + gk = n) := hj
            have HA : Hid (Arcs n m (uOf l' ks) (vOf l' ks) (aOf l') m hf rf rows) := harc
            have HSX : Hid (Sx w g1 bn l' ks (.slice na n nc) bcv bc bh br bq bf ba bp B1 m n CC hf rf rows wr) := hsx
            have hle : j ≤ n := by omega
            clear hj harc hsx HS2
            by_cases hlt : j < n
            · have hI : (j : Int) + 1 ≤ (n : Int) := by omega
              obtain ⟨ff, hff⟩ := HSX.out.ff
              have k0 := HSX.out.nc.var.cell (i := 0) (by omega)
              have k8 := HSX.out.nc.cc.cell (i := 8) (by omega)
              rw [HK.out.c8] at k8
              have kf1 := hff.cell (i := j + 1) (by omega)
              have kf0 := hff.cell (i := j) (by omega)
              have kz := hff.frozen
              have z1 : IntKind.i64.wrap ((j : Int) + 1 - 1) = (j : Int) := by rw [IntWalk.i64_in _ (by omega)]; omega
              have z2 : (j : Int) + 1 < ((n + 1 : Nat) : Int) := by omega
              have z3 : (j : Int) < ((n + 1 : Nat) : Int) := by omega
              have z4 : IntKind.i64.wrap ((j : Int) + 1 + 1) = (j : Int) + 1 + 1 := IntWalk.i64_in _ (by omega)
              clear hff
              go_upto_region 28 with fail
              go_region
              have HX : Hid (St w g1 bn l' ks (.slice na n nc) bcv bc bh br bq bf ba bp B1 m n CC m (wr.setCell ⟨bf, j + 1, none⟩ (.int .i64 (max (ff (j + 1)) (ff j)))).drew) := ⟨hf, rf, rows, HA.out, (HSX.out.setF HK.out (j + 1) (max (ff (j + 1)) (ff j))).drewN 1⟩
              clear k0 k8 kf1 kf0 kz z1 z2 z3 HSX HA
              generalize (wr.setCell ⟨bf, j + 1, none⟩ (.int .i64 (max (ff (j + 1)) (ff j)))).drew = X at *
              go_wp2
              go_roundg (gk - 1)
              case measure => have := HJ.out; omega
              case rel => exact ⟨j + 1, by have := HJ.out; omega, by go_num, HX.out⟩
            · have hI : ¬ (j : Int) + 1 ≤ (n : Int) := by omega
              go_wp2_with fail
              go_meet
              exact ⟨hf, rf, rows, HA.out, HSX.out⟩
        case rest =>
          obtain ⟨hf, rf, rows, harc, hsx⟩ := hcut
          rename World => w11
          have k0 := hsx.nc.var.cell (i := 0) (by omega)
          have hUL : ∀ k, k < m → uOf l' ks k < n ∧ vOf l' ks k < n := by
            intro k hk
            have hmh := mem_has l' (j := k) (by omega)
            rw [HKS.out] at hmh
            have hxg : l'.getD k ([], [], 0) = l'[k]'(by omega) := by rw [List.getD_eq_getElem?_getD, List.getElem?_eq_getElem (by omega)]; rfl
            exact ⟨by rw [uOf, hxg, ← HN.out]; exact List.idxOf_lt_length_of_mem hmh.1, by rw [vOf, hxg, ← HN.out]; exact List.idxOf_lt_length_of_mem hmh.2⟩
          have hL := harc.laid (fun k hk => (hUL k hk).1) (fun k hk => (hUL k hk).2)
          have hG := hsx.gat HK.out harc hL hm (by omega)
          have HR : Hid (∃ (bh br bp ba : Nat) (G : Gr) (D : Nat → Int) (lv : Nat → Nat), GAt w11 bc bh br bp ba G ∧ Ok G ∧ Best G D lv ∧ Below w.heap.size w w11) := ⟨bh, br, bp, ba, _, _, _, hG, hL.ok, hL.best, hsx.pre.bel⟩
          clear harc hsx hUL hL hG HS2
          go_wp2
          go_ret
          obtain ⟨bh, br, bp, ba, G, D, lv, h1, h2, h3, h4⟩ := HR.out
          exact ⟨bc, bh, br, bp, ba, G, D, lv, rfl, h1, h2, h3, h4⟩
end Go.Proofs.Ybulkcmrw.W
