/-
  LawS4429BShortestPaths: the walk.
-/
import Derived.Test.YbulkcmrwDist
import Derived.Test.YbulkcmrwClone
import Derived.Deep.RegionHeld3
namespace Go.Proofs.Ybulkcmrw.W
open Go Go.RowKit Go.Proofs.Ybulkcmrw.Mem Go.Proofs.Ybulkcmrw.G

theorem step_append_own {P : Program} (w : World) {ops : Array Oper} {o : Oper} {a : Act} {K : Act → World → Prop} {Q : Exit → Act → World → Prop} {E : Prop} (hgd : o.guard = none) (s x : Operand) (t : TypeId)
    (ho : o.op = .call { callee := .builtin .append, args := #[s, x], argTypes := #[t, t] })
    (base : Nat) (e : TypeId) (i : TypeInfo) (z : Value) (size bytes : Nat) (ht : P.underlying t = some (.slice e)) (hi : P.info? e = some i) (hz : i.zero = some z)
    (hsize : i.size = size) (hby : i.bytes = bytes) (hzs : z.cells.size = size) (hsz : 0 < size)
    (v : Value) (n : Nat) (xs : List Value) (hs : a.eval s = v) (hown : w.ownsRow base e size v n xs)
    (ad : Addr) (m c : Nat) (news : List Value) (hx : a.eval x = .slice (some ad) m c) (hl : news.length = m * size) (hnews : ∀ j u, news[j]? = some u → w.cell? (ad.add j) = some u) (h1 : ∀ u ∈ news, u.oneCell' = true)
    (h63 : n + m ≤ maxLen) (hbytes : (n + m) * bytes ≤ 140737488355328) (hbase : base ≤ w.heap.size)
    (h : ∀ v' w', w'.ownsRow base e size v' (n + m) (xs ++ news) → w.grownBy w' v.ownBlock → (v' = .slice none 0 0 ↔ v = .slice none 0 0 ∧ m = 0) → K (a.put o.dst v') w') :
    if Region.wanted o (yielded ops a.tmps) = true then Oper.wp P o a w K Q else E := by
  have hw : Region.wanted o (yielded ops a.tmps) = true := by simp [Region.wanted, hgd]
  rw [if_pos hw]
  exact wp_append_own w s x t ho base e i z size bytes ht hi hz hsize hby hzs hsz v n xs hs hown ad m c news hx hl hnews h1 h63 hbytes hbase h

theorem new3 (w : World) (t : TypeId) (x y z : Value) : ∀ j u, [x, y, z][j]? = some u → (w.alloc (.cells #[x, y, z] t)).cell? ((⟨w.heap.size, 0, none⟩ : Addr).add j) = some u := by
  intro j u hj
  match j, hj with
  | 0, hj => simp at hj; subst hj; simp [Addr.add]
  | 1, hj => simp at hj; subst hj; simp [Addr.add]
  | 2, hj => simp at hj; subst hj; simp [Addr.add]

theorem alloc_cell' {w : World} {p : Addr} {v : Value} (h : w.cell? p = some v) : ∀ o, (w.alloc o).cell? p = some v := fun o =>
  (((Below.refl _ w).alloc (Nat.le_refl _) o).cell (World.block_lt_of_cell? w _ h)).trans h

/-- A debt as it came in. -/
structure Raw where
  d : Nat
  c : Nat
  a : Int

/-- Element j of the argument. -/
structure LiesR (w : World) (b off : Nat) (x : Raw) (j : Nat) : Prop where
  c0 : w.cell? ⟨b, off + j * 3, none⟩ = some (.int .u8 (x.d : Nat))
  c1 : w.cell? ⟨b, off + j * 3 + 1, none⟩ = some (.int .u8 (x.c : Nat))
  c2 : w.cell? ⟨b, off + j * 3 + 2, none⟩ = some (.int .i64 x.a)
  dl : x.d < 256
  cl : x.c < 256

/-- A row of int32s, told by a function. -/
def hc (f : Nat → Nat) (n : Nat) : List Value := (List.range n).map fun x => Value.int .i32 (f x : Nat)
theorem hc_length (f : Nat → Nat) (n : Nat) : (hc f n).length = n := by simp [hc]
theorem hc_get (f : Nat → Nat) {n x : Nat} (h : x < n) : (hc f n)[x]? = some (.int .i32 (f x : Nat)) := by simp [hc, h]
theorem mk_of_list (s : ByteArray) : ByteArray.mk s.toList.toArray = s := by rw [ByteArray.toList_eq]

/-- The debt made of it. -/
def debtOf (x : Raw) : Debt := ((nm x.d).toList, (nm x.c).toList, x.a)
theorem enc_debt (x : Raw) : encD (debtOf x) = [.string (nm x.d), .string (nm x.c), .int .i64 x.a] := by
  show [Value.string (ByteArray.mk (nm x.d).toList.toArray), Value.string (ByteArray.mk (nm x.c).toList.toArray), Value.int .i64 x.a] = _
  rw [mk_of_list, mk_of_list]
def cellsD (l : List Debt) : List Value := l.flatMap encD
theorem cellsD_length (l : List Debt) : (cellsD l).length = l.length * 3 := by
  induction l with
  | nil => rfl
  | cons x l ih => simp only [cellsD, List.flatMap_cons, List.length_append, List.length_cons] at *; rw [ih]; simp [encD]; omega

/-- No distance found is greater, behind k rounds, v nodes and t arcs. -/
def ub (k v t : Nat) : Int := (k : Int) * 409604096 + (v : Int) * 100001 + (t : Int)
theorem ub_t (k v t : Nat) : ub k v t + 1 = ub k v (t + 1) := by unfold ub; omega
theorem ub_v {k v t : Nat} (h : t ≤ 100001) : ub k v t ≤ ub k (v + 1) 0 := by unfold ub; omega
theorem ub_k {k v : Nat} (h : v ≤ 4096) : ub k v 0 ≤ ub (k + 1) 0 0 := by unfold ub; omega
theorem ub_le {k v t : Nat} (hk : k ≤ 4096) (hv : v ≤ 4096) (ht : t ≤ 100001) : ub k v t ≤ 10000000000000 := by unfold ub; omega
theorem ub_start : (0 : Int) ≤ ub 0 0 0 := by unfold ub; omega

/-- What newClearing is asked. -/
def NewOk : Prop := ∀ (g c : Nat) (l : List Debt) (w : World), l.length ≤ 1024 → (∀ j u, (cellsD l)[j]? = some u → w.cell? ⟨g, j, none⟩ = some u) →
  Calls Yba.prog 5 #[.slice (some ⟨g, 0, none⟩) l.length c] w fun e w' => ∃ (bc bh br bp ba : Nat) (G : Gr) (D : Nat → Int) (lv : Nat → Nat), e = .returned (.pointer (some ⟨bc, 0, none⟩)) ∧ GAt w' bc bh br bp ba G ∧ Ok G ∧ Best G D lv ∧ Below w.heap.size w w'

set_option maxHeartbeats 8000000 in
set_option maxRecDepth 100000 in
theorem lawMain (hnew : NewOk) (ao : Option Addr) (c b off : Nat) (xs : List Raw) (w : World) (hs : 0 < xs.length → ao = some ⟨b, off, none⟩) (hl : ∀ j (h : j < xs.length), LiesR w b off xs[j] j) (hbw : 0 < xs.length → b < w.heap.size) (hn : xs.length ≤ 1024) :
    Calls Yba.prog 3 #[.slice ao xs.length c] w fun e w' => e = .returned (.bool true) ∧ Below w.heap.size w w' := by
  obtain ⟨i29, hi29, hz290, hz291, hz292⟩ := info_parts info29
  have HNEW : Hid NewOk := hnew
  have HS : Hid (0 < xs.length → ao = some ⟨b, off, none⟩) := hs
  have HL : Hid (∀ j (h : j < xs.length), LiesR w b off xs[j] j) := hl
  have HW : Hid (0 < xs.length → b < w.heap.size) := hbw
  clear hnew hs hl hbw
  go_enter Yba.func3, Yba.ntmps3
  go_wp2_with (at_make; refine wpList_make_own _ rfl _ _ 23 rfl w.heap.size 29 i29 _ 3 Yba.underlying23 hi29 hz290 hz291 .i64 .i64 _ xs.length rfl rfl rfl ?m1 ?m2 (Nat.le_refl _) ?_)
  case m1 => rw [hz292]; omega
  case m2 => unfold maxLen; omega
  intro w1 ho1 hg1
  have b1 : Below w.heap.size w w1 := (Below.refl _ w).grown hg1 (Nat.le_refl _) (by simp)
  clear hg1
  go_upto_block 0 with fail
  go_cut [3] (fun dv wx => ∃ g cp, dv = .slice (some ⟨g, 0, none⟩) xs.length cp ∧ (∀ j u, (cellsD (xs.map debtOf))[j]? = some u → wx.cell? ⟨g, j, none⟩ = some u) ∧ Below w.heap.size w wx)
  case first =>
    go_wp2_with fail
    go_loopg [3, 28] xs.length (fun gk dv iv wr => ∃ i : Nat, i + gk = xs.length ∧ iv = .int .i64 (i : Nat) ∧ wr.ownsRow w.heap.size 29 3 dv i (cellsD ((xs.take i).map debtOf)) ∧ dv ≠ .slice none 0 0 ∧ Below w.heap.size w wr)
    case atStart => exact ⟨0, by omega, rfl, by simpa [cellsD] using ho1, by simp, b1⟩
    case round =>
      obtain ⟨i, hi, rfl, hd, hnn, hb⟩ := hrel
      have HI : Hid (i + gk = xs.length) := hi
      have HD : Hid (wr.ownsRow w.heap.size 29 3 _ i (cellsD ((xs.take i).map debtOf))) := hd
      have HNN : Hid (_ ≠ Value.slice none 0 0) := hnn
      have HB : Hid (Below w.heap.size w wr) := hb
      have hle : i ≤ xs.length := by omega
      have hsz : w.heap.size ≤ wr.heap.size := hb.size
      clear hi hd hnn hb
      by_cases hlt : i < xs.length
      · have hI : (i : Int) < (xs.length : Int) := by omega
        have e0 := HS.out (by omega)
        have hbw := HW.out (by omega)
        subst e0
        have hL := HL.out i hlt
        have c0 := (HB.out.cell (p := ⟨b, off + i * 3, none⟩) hbw).trans hL.c0
        have c1 := (HB.out.cell (p := ⟨b, off + i * 3 + 1, none⟩) hbw).trans hL.c1
        have c2 := (HB.out.cell (p := ⟨b, off + i * 3 + 2, none⟩) hbw).trans hL.c2
        have hdl := hL.dl
        have hcl := hL.cl
        obtain ⟨x, hxe⟩ : ∃ x, xs[i] = x := ⟨_, rfl⟩
        rw [hxe] at c0 c1 c2 hdl hcl
        have HXE : Hid (xs[i] = x) := hxe
        clear hL hxe
        have hoa := HD.out.alloc (.cells #[.int .u8 (x.d : Nat), .int .u8 (x.c : Nat), .int .i64 x.a] 25)
        have hba := HB.out.alloc hsz (.cells #[.int .u8 (x.d : Nat), .int .u8 (x.c : Nat), .int .i64 x.a] 25)
        have e0 : (wr.alloc (.cells #[.int .u8 (x.d : Nat), .int .u8 (x.c : Nat), .int .i64 x.a] 25)).cell? ⟨wr.heap.size, 0, none⟩ = some (.int .u8 (x.d : Nat)) := by simp
        have e1 : (wr.alloc (.cells #[.int .u8 (x.d : Nat), .int .u8 (x.c : Nat), .int .i64 x.a] 25)).cell? ⟨wr.heap.size, 1, none⟩ = some (.int .u8 (x.c : Nat)) := by simp
        have e2 : (wr.alloc (.cells #[.int .u8 (x.d : Nat), .int .u8 (x.c : Nat), .int .i64 x.a] 25)).cell? ⟨wr.heap.size, 2, none⟩ = some (.int .i64 x.a) := by simp
        have hbk : (wr.alloc (.cells #[.int .u8 (x.d : Nat), .int .u8 (x.c : Nat), .int .i64 x.a] 25)).heap[wr.heap.size]? = some (.cells #[.int .u8 (x.d : Nat), .int .u8 (x.c : Nat), .int .i64 x.a] 25 (0, 0)) := heap_alloc_new wr _
        go_upto_region 7 with fail
        generalize wr.alloc (.cells #[.int .u8 (x.d : Nat), .int .u8 (x.c : Nat), .int .i64 x.a] 25) = W at *
        have hWs : w.heap.size ≤ W.heap.size := hba.size
        have q0 := alloc_cell' e0
        have q1 := alloc_cell' e1
        have q2 := alloc_cell' e2
        have HOA : Hid (W.ownsRow w.heap.size 29 3 u3 i (cellsD ((xs.take i).map debtOf))) := hoa
        have HBA : Hid (Below w.heap.size w W) := hba
        have HBK : Hid (W.heap[wr.heap.size]? = some (.cells #[.int .u8 (x.d : Nat), .int .u8 (x.c : Nat), .int .i64 x.a] 25 (0, 0))) := hbk
        have HST : Hid (∀ (v' : Value) (w' : World), w'.ownsRow w.heap.size 29 3 v' (i + 1) (cellsD ((xs.take i).map debtOf) ++ [.string (nm x.d), .string (nm x.c), .int .i64 x.a]) → ((W.alloc (.cells #[.string (nm x.d), .string (nm x.c), .int .i64 x.a] 29)).drew).grownBy w' u3.ownBlock → (v' = .slice none 0 0 ↔ u3 = .slice none 0 0 ∧ 1 = 0) →
            w'.cell? ⟨wr.heap.size, 0, none⟩ = some (.int .u8 (x.d : Nat)) ∧ w'.cell? ⟨wr.heap.size, 1, none⟩ = some (.int .u8 (x.c : Nat)) ∧ w'.cell? ⟨wr.heap.size, 2, none⟩ = some (.int .i64 x.a) ∧ w'.ownsRow w.heap.size 29 3 v' (i + 1) (cellsD ((xs.take (i + 1)).map debtOf)) ∧ v' ≠ .slice none 0 0 ∧ Below w.heap.size w w') := by
          intro v' w' ho' hg' hn'
          have hne : some wr.heap.size ≠ u3.ownBlock := by
            intro e
            obtain ⟨c2, h5⟩ := own_type HOA.out e.symm
            rw [HBK.out] at h5
            simp at h5
          have key : ∀ {o : Nat} {y : Value}, W.cell? ⟨wr.heap.size, o, none⟩ = some y → w'.cell? ⟨wr.heap.size, o, none⟩ = some y := fun hy => hg'.cell (alloc_cell' hy _) hne
          refine ⟨key e0, key e1, key e2, ?_, fun e => by have := (hn'.1 e).2; omega, ?_⟩
          · have e : cellsD ((xs.take (i + 1)).map debtOf) = cellsD ((xs.take i).map debtOf) ++ [.string (nm x.d), .string (nm x.c), .int .i64 x.a] := by
              rw [List.take_succ_eq_append_getElem hlt, HXE.out, List.map_append, cellsD, cellsD, List.flatMap_append]
              simp only [List.map_cons, List.map_nil, List.flatMap_cons, List.flatMap_nil, List.append_nil, enc_debt]
            rw [e]
            exact ho'
          · exact ((HBA.out.alloc hWs _).drew).grown hg' (by simp; omega) (fun k hk => (HOA.out.lt k hk).1)
        clear hoa hba hbk c0 c1 c2
        go_region_held3 (fun w' => w'.cell? ⟨wr.heap.size, 0, none⟩ = some (.int .u8 (x.d : Nat)) ∧ w'.cell? ⟨wr.heap.size, 1, none⟩ = some (.int .u8 (x.c : Nat)) ∧ w'.cell? ⟨wr.heap.size, 2, none⟩ = some (.int .i64 x.a)) (first | exact ⟨e0, e1, e2⟩ | exact ⟨q0 _, q1 _, q2 _⟩ | exact ⟨p0, p1, p2⟩) (first | (go_at_call 4; refine (nameOf _ (by omega) _).mono ?_; rintro e w3 ⟨rfl, rfl⟩) | (refine step_append_own _ rfl (.tmp 32) (.tmp 42) 23 rfl w.heap.size 29 i29 _ 3 40 Yba.underlying23 hi29 hz290 hz291 hz292 rfl (by decide) u3 i _ rfl (HOA.out.alloc _) _ 1 1 [.string (nm x.d), .string (nm x.c), .int .i64 x.a] rfl rfl (new3 _ _ _ _ _) (by intro y hy; simp at hy; rcases hy with rfl | rfl | rfl <;> rfl) (by unfold maxLen; omega) (by omega) (by simp; omega) ?_; intro v4 w4 ho4 hg4 hn4; obtain ⟨p0, p1, p2, p3, p4, p5⟩ := HST.out v4 w4 ho4 hg4 hn4))
        all_goals
          go_wp2
          go_roundg (gk - 1)
          case measure => have := HI.out; omega
          case rel => exact ⟨i + 1, by have := HI.out; omega, by go_num, p3, p4, p5⟩
      · have hI : ¬ (i : Int) < (xs.length : Int) := by omega
        have hie : i = xs.length := by omega
        have HE : Hid (i = xs.length) := hie
        clear hie
        go_wp2_with fail
        go_meet
        have h1 := HD.out
        rw [HE.out, List.take_length] at h1
        obtain ⟨g, cp, rfl⟩ : ∃ g cp, u3 = .slice (some ⟨g, 0, none⟩) xs.length cp := by
          rcases h1.2 with ⟨hv, _⟩ | ⟨g', cp, cur, hv, _⟩
          · exact absurd hv HNN.out
          · exact ⟨g', cp, hv⟩
        refine ⟨g, cp, rfl, fun j u hj => ?_, HB.out⟩
        have h2 := h1.cells rfl j u hj
        have hadd : (⟨g, 0, none⟩ : Addr).add j = ⟨g, j, none⟩ := by unfold Addr.add; split <;> simp_all
        rw [hadd] at h2
        exact h2
  case rest =>
    obtain ⟨g, cp, rfl, hcd, hb2⟩ := hcut
    clear ho1 b1
    rename World => w2
    have hC := HNEW.out g cp (xs.map debtOf) w2 (by simp; omega) hcd
    rw [List.length_map] at hC
    have HC : Hid (Calls Yba.prog 5 _ w2 _) := hC
    have hs2 : w.heap.size ≤ w2.heap.size := hb2.size
    clear hC hcd HNEW HS HL HW
    go_wp2_with fail
    refine HC.out.mono ?_
    rintro e w3 ⟨bc, bh, br, bp, ba, G, D, lv, rfl, hga, hok, hbe, hb3⟩
    have HG3 : Hid (GAt w3 bc bh br bp ba G) := hga
    have HOK : Hid (Ok G) := hok
    have HBE : Hid (Best G D lv) := hbe
    have HB3 : Hid (Below w.heap.size w w3) := hb2.trans (hb3.mono hs2)
    have hm := hga.mle
    have hn2 := hga.nle
    have hsl := hok.src
    have c2 := hga.room
    clear hga hok hbe hb3 hb2 HC hs2
    go_wp2_with fail
    refine (clone6 br (6 * G.m) (6 * G.m) (dc G.rm (6 * G.m)) w3 (dc_length _ _) (by omega) (fun j u hj => ?_) (fun u hu => ?_)).mono ?_
    · have hjl : j < 6 * G.m := by have := (List.getElem?_eq_some_iff.1 hj).1; rw [dc_length] at this; exact this
      rw [dc_get _ hjl] at hj
      rw [HG3.out.rm j hjl]; exact hj
    · obtain ⟨y, _, rfl⟩ := List.mem_map.1 hu; rfl
    rintro e w4 ⟨g4, c4, rfl, hc4, hb4⟩
    have HG4 : Hid (GAt w4 bc bh br bp ba G) := HG3.out.below hb4
    have HC4 : Hid (∀ j, j < 6 * G.m → w4.cell? ⟨g4, j, none⟩ = some (.int .i64 (G.rm j))) := fun j hj => hc4 j _ (dc_get _ hj)
    have HB4 : Hid (Below w.heap.size w w4) := HB3.out.trans (hb4.mono HB3.out.size)
    clear hc4 hb4 c2 HG3 HB3
    have c0 := HG4.out.head
    go_wp2_with fail
    refine (clone7 bh (6 * G.m) (6 * G.m) (hc G.hd (6 * G.m)) w4 (hc_length _ _) (by omega) (fun j u hj => ?_) (fun u hu => ?_)).mono ?_
    · have hjl : j < 6 * G.m := by have := (List.getElem?_eq_some_iff.1 hj).1; rw [hc_length] at this; exact this
      rw [hc_get _ hjl] at hj
      rw [HG4.out.hd j hjl]; exact hj
    · obtain ⟨y, _, rfl⟩ := List.mem_map.1 hu; rfl
    rintro e w5 ⟨g5, c5, rfl, hc5, hb5⟩
    have HG5 : Hid (GAt w5 bc bh br bp ba G) := HG4.out.below hb5
    have HC5 : Hid (∀ j, j < 6 * G.m → w5.cell? ⟨g5, j, none⟩ = some (.int .i32 (G.hd j : Nat))) := fun j hj => hc5 j _ (hc_get _ hj)
    have HD5 : Hid (∀ j, j < 6 * G.m → w5.cell? ⟨g4, j, none⟩ = some (.int .i64 (G.rm j))) := fun j hj => (hb5.cell (World.block_lt_of_cell? w4 _ (HC4.out j hj))).trans (HC4.out j hj)
    have HB5 : Hid (Below w.heap.size w w5) := HB4.out.trans (hb5.mono HB4.out.size)
    clear hc5 hb5 c0 HG4 HB4 HC4
    go_wp2_with fail
    refine (distances bc bh br bp ba G D lv w5 HG5.out HOK.out HBE.out).mono ?_
    rintro e w6 ⟨rfl, hd6, hb6⟩
    have HG6 : Hid (GAt w6 bc bh br bp ba G) := HG5.out.below hb6
    have key : ∀ {p : Addr} {v : Value}, w5.cell? p = some v → w6.cell? p = some v := fun hcl => (hb6.cell (World.block_lt_of_cell? w5 _ hcl)).trans hcl
    have HC6 : Hid (∀ j, j < 6 * G.m → w6.cell? ⟨g5, j, none⟩ = some (.int .i32 (G.hd j : Nat))) := fun j hj => key (HC5.out j hj)
    have HD6 : Hid (∀ j, j < 6 * G.m → w6.cell? ⟨g4, j, none⟩ = some (.int .i64 (G.rm j))) := fun j hj => key (HD5.out j hj)
    have HT6 : Hid (∀ x, x < G.N → w6.cell? ⟨w5.heap.size, x, none⟩ = some (.int .i64 (D x))) := hd6
    have HB6 : Hid (Below w.heap.size w w6) := HB5.out.trans (hb6.mono HB5.out.size)
    clear hd6 hb6 key HG5 HB5 HC5 HD5
    generalize w5.heap.size = bt at *
    have c9 := HG6.out.arcs
    obtain ⟨da, dcp, c4'⟩ := HG6.out.debts
    have hx0 : ((G.N : Int) != (G.N : Int)) = false := by simp
    obtain ⟨i2, hi2, hz20, hz21, hz22⟩ := info_parts info2
    go_wp2_with (at_make; refine wpList_make_full _ rfl _ _ 40 rfl w6.heap.size 2 i2 (.int .i64 0) 1 Yba.underlying40 hi2 hz20 hz21 .i64 .i64 _ _ G.N rfl rfl rfl rfl ?m1 ?m2 (Nat.le_refl _) ?_)
    case m1 => rw [hz22]; omega
    case m2 => unfold maxLen; omega
    intro w7 ho7 hg7
    have b7 : Below w6.heap.size w6 w7 := (Below.refl _ w6).grown hg7 (Nat.le_refl _) (by simp)
    have ho7' : w7.ownsRow w6.heap.size 2 1 (.slice (some ⟨w6.heap.size, 0, none⟩) G.N G.N) G.N (dc (fun _ => 0) G.N) := by
      rw [toList_madeCells_one] at ho7
      have e : List.replicate G.N (Value.int .i64 0) = dc (fun _ => 0) G.N := by
        apply List.ext_getElem?
        intro k
        by_cases hk : k < G.N
        · rw [dc_get _ hk]; simp [hk]
        · rw [List.getElem?_eq_none (by simp; omega), List.getElem?_eq_none (by rw [dc_length]; omega)]
      rw [e] at ho7
      exact ho7
    clear ho7 hg7 c9 hx0
    go_upto_block 2 with fail
    go_cut [13] (fun _ wx => wx.ownsRow w6.heap.size 2 1 (.slice (some ⟨w6.heap.size, 0, none⟩) G.N G.N) G.N (dc (fun _ => -1) G.N) ∧ Below w6.heap.size w6 wx)
    case first =>
      go_wp2_with fail
      go_loopg [13] G.N (fun gk iv wr => ∃ i : Nat, i + gk = G.N ∧ iv = .int .i64 (i : Nat) ∧ wr.ownsRow w6.heap.size 2 1 (.slice (some ⟨w6.heap.size, 0, none⟩) G.N G.N) G.N (dc (fun x => if x < i then -1 else 0) G.N) ∧ Below w6.heap.size w6 wr)
      case atStart => exact ⟨0, by omega, rfl, by simpa using ho7', b7⟩
      case round =>
        obtain ⟨i, hi, rfl, hd, hb⟩ := hrel
        have HI : Hid (i + gk = G.N) := hi
        by_cases hlt : i < G.N
        · have hI : (i : Int) < (G.N : Int) := by omega
          have hcl := hd.cellAt i (by omega)
          rw [dc_get _ hlt] at hcl
          have hf := hd.frozenAt
          have st := (hd.stored i (.int .i64 (-1))).1
          rw [dc_set] at st
          have e : dc (upd (fun x => if x < i then -1 else 0) i (-1)) G.N = dc (fun x => if x < i + 1 then -1 else 0) G.N := by
            apply dc_congr
            intro x hx
            by_cases e : x = i
            · subst e; rw [upd_same]; simp
            · rw [upd_other _ _ e]
              have : (x < i + 1) = (x < i) := by rw [eq_iff_iff]; omega
              simp [this]
          rw [e] at st
          have HD : Hid (World.ownsRow _ _ _ _ _ _ _) := st
          have HBb : Hid (Below _ _ _) := hb.setCell (p := ⟨w6.heap.size, i, none⟩) (Nat.le_refl _) (.int .i64 (-1))
          clear hi hd hb st e
          go_wp2
          go_roundg (gk - 1)
          case measure => have := HI.out; omega
          case rel => exact ⟨i + 1, by have := HI.out; omega, by go_num, HD.out, HBb.out⟩
        · have hI : ¬ (i : Int) < (G.N : Int) := by omega
          have e : dc (fun x => if x < i then -1 else 0) G.N = dc (fun _ => -1) G.N := dc_congr (fun x hx => by simp; omega)
          rw [e] at hd
          have HD : Hid (World.ownsRow _ _ _ _ _ _ _) := hd
          clear e hd
          go_wp2_with fail
          go_meet
          exact ⟨HD.out, hb⟩
    case rest =>
      obtain ⟨hd0, hb0⟩ := hcut
      clear ho7' b7
      rename World => w8
      have c6 := (hb0.cell (p := ⟨bc, 6, none⟩) (World.block_lt_of_cell? w6 _ HG6.out.src)).trans HG6.out.src
      have hc0 := hd0.cellAt G.src (by omega)
      rw [dc_get _ hsl] at hc0
      have hf0 := hd0.frozenAt
      have hI0 : (G.src : Int) < (G.N : Int) := by omega
      have st := (hd0.stored G.src (.int .i64 0)).1
      rw [dc_set] at st
      have hb1 := hb0.setCell (p := ⟨w6.heap.size, G.src, none⟩) (Nat.le_refl _) (.int .i64 0)
      go_upto_region 23 with fail
      generalize w8.setCell ⟨w6.heap.size, G.src, none⟩ (.int .i64 0) = w9 at *
      have HST : Hid (w9.ownsRow w6.heap.size 2 1 (.slice (some ⟨w6.heap.size, 0, none⟩) G.N G.N) G.N (dc (upd (fun _ => -1) G.src 0) G.N)) := st
      have HB9 : Hid (Below w6.heap.size w6 w9) := hb1
      clear c6 hc0 hf0 hd0 hb0 st hb1 w8
      go_upto_block 4 with fail
      go_cut [14] (fun _ wx => ∃ f, wx.ownsRow w6.heap.size 2 1 (.slice (some ⟨w6.heap.size, 0, none⟩) G.N G.N) G.N (dc f G.N) ∧ Below w6.heap.size w6 wx ∧ ∀ x, x < G.N → f x = D x)
      case first =>
        go_wp2_with fail
        go_loopg [14] G.N (fun gk iv wr => ∃ (k : Nat) (f : Nat → Int), k + gk = G.N ∧ iv = .int .i64 (k : Nat) ∧ wr.ownsRow w6.heap.size 2 1 (.slice (some ⟨w6.heap.size, 0, none⟩) G.N G.N) G.N (dc f G.N) ∧ Below w6.heap.size w6 wr ∧ BF G D lv k 0 f ∧ ∀ x, f x ≤ ub k 0 0)
        case atStart => exact ⟨0, _, by omega, rfl, HST.out, HB9.out, BF.start HBE.out, fun x => by have := ub_start; unfold upd; split <;> (try dsimp only) <;> omega⟩
        case round =>
          obtain ⟨k, f, hk, rfl, hd, hb, hbf, hub⟩ := hrel
          have HK : Hid (k + gk = G.N) := hk
          have HD : Hid (wr.ownsRow w6.heap.size 2 1 (.slice (some ⟨w6.heap.size, 0, none⟩) G.N G.N) G.N (dc f G.N)) := hd
          have HB : Hid (Below w6.heap.size w6 wr) := hb
          have HBF : Hid (BF G D lv k 0 f) := hbf
          have HUB : Hid (∀ x, f x ≤ ub k 0 0) := hub
          have hkN : k ≤ G.N := by omega
          clear hk hd hb hbf hub HST HB9
          by_cases hlt : k < G.N
          · have hI : (k : Int) < (G.N : Int) := by omega
            go_wp2_with fail
            go_loopg [15] G.N (fun gk iv wr => ∃ (v : Nat) (f : Nat → Int), v + gk = G.N ∧ iv = .int .i64 (v : Nat) ∧ wr.ownsRow w6.heap.size 2 1 (.slice (some ⟨w6.heap.size, 0, none⟩) G.N G.N) G.N (dc f G.N) ∧ Below w6.heap.size w6 wr ∧ BF G D lv k v f ∧ ∀ x, f x ≤ ub k v 0)
            case atStart => exact ⟨0, f, by omega, rfl, HD.out, HB.out, HBF.out, HUB.out⟩
            case round =>
              clear HD HB HBF HUB
              obtain ⟨v, f, hv, rfl, hd, hb, hbf, hub⟩ := hrel
              have HV : Hid (v + gk = G.N) := hv
              have HD : Hid (wr.ownsRow w6.heap.size 2 1 (.slice (some ⟨w6.heap.size, 0, none⟩) G.N G.N) G.N (dc f G.N)) := hd
              have HB : Hid (Below w6.heap.size w6 wr) := hb
              have HBF : Hid (BF G D lv k v f) := hbf
              have HUB : Hid (∀ x, f x ≤ ub k v 0) := hub
              have hvN : v ≤ G.N := by omega
              clear hv hd hb hbf hub
              by_cases hvl : v < G.N
              · have hI2 : (v : Int) < (G.N : Int) := by omega
                have hcv := HD.out.cellAt v (by omega)
                rw [dc_get _ hvl] at hcv
                by_cases hneg : f v < 0
                · have HN : Hid (BF G D lv k (v + 1) f) := HBF.out.node (fun h => by omega)
                  go_wp2
                  go_roundg (gk - 1)
                  case measure => have := HV.out; omega
                  case rel => exact ⟨v + 1, f, by have := HV.out; omega, by go_num, HD.out, HB.out, HN.out, fun x => Int.le_trans (HUB.out x) (ub_v (by omega))⟩
                · have HGR : Hid (GAt wr bc bh br bp ba G) := HG6.out.below HB.out
                  have c9' := HGR.out.arcs
                  obtain ⟨aa, ac, hca, hcb⟩ := HGR.out.adj v hvl
                  have HAB : Hid (0 < (G.adj v).length → ∃ g, aa = some ⟨g, 0, none⟩ ∧ g < w6.heap.size ∧ ∀ t (ht : t < (G.adj v).length), w6.cell? ⟨g, t, none⟩ = some (.int .i32 ((G.adj v)[t] : Nat))) := by
                    intro hp
                    obtain ⟨va', vc', h1', h2'⟩ := HG6.out.adj v hvl
                    have h3' := (HB.out.cell (p := ⟨ba, v, none⟩) (World.block_lt_of_cell? w6 _ h1')).trans h1'
                    rw [hca] at h3'
                    simp at h3'
                    obtain ⟨g, h4', h5'⟩ := h2' hp
                    exact ⟨g, by rw [h3'.1, h4'], World.block_lt_of_cell? w6 _ (h5' 0 hp), h5'⟩
                  obtain ⟨al, hal⟩ : ∃ al, (G.adj v).length = al := ⟨_, rfl⟩
                  rw [hal] at hca
                  have HAL : Hid ((G.adj v).length = al) := hal
                  have halb : al ≤ 100000 := by rw [← hal]; exact HG6.out.adl v hvl
                  have hneg' : ¬ f v < 0 := hneg
                  clear hcb hal
                  go_wp2_with fail
                  go_loopg [114] al (fun gk iv wr => ∃ (t : Nat) (f : Nat → Int), t + gk = al ∧ iv = .int .i64 (t : Nat) ∧ wr.ownsRow w6.heap.size 2 1 (.slice (some ⟨w6.heap.size, 0, none⟩) G.N G.N) G.N (dc f G.N) ∧ Below w6.heap.size w6 wr ∧ BF G D lv k v f ∧ Arcs G v t f ∧ 0 ≤ f v ∧ ∀ x, f x ≤ ub k v t)
                  case atStart => exact ⟨0, f, by omega, rfl, HD.out, HB.out, HBF.out, Arcs.zero _ _, by omega, HUB.out⟩
                  case round =>
                    clear HD HB HBF HUB HGR c9' hca hcv hneg hneg'
                    obtain ⟨t, f, ht, rfl, hd, hb, hbf, har, hfv, hub⟩ := hrel
                    have HT : Hid (t + gk = al) := ht
                    have HD : Hid (wr.ownsRow w6.heap.size 2 1 (.slice (some ⟨w6.heap.size, 0, none⟩) G.N G.N) G.N (dc f G.N)) := hd
                    have HB : Hid (Below w6.heap.size w6 wr) := hb
                    have HBF : Hid (BF G D lv k v f) := hbf
                    have HAR : Hid (Arcs G v t f) := har
                    have HUB : Hid (∀ x, f x ≤ ub k v t) := hub
                    have htl : t ≤ al := by omega
                    clear ht hd hb hbf har hub
                    by_cases hta : t < al
                    · have hI3 : (t : Int) < (al : Int) := by omega
                      obtain ⟨ga, hga, hgl, hgc⟩ := HAB.out (by have := HAL.out; omega)
                      subst hga
                      obtain ⟨i, hie⟩ : ∃ i, (G.adj v)[t]'(by have := HAL.out; omega) = i := ⟨_, rfl⟩
                      have hci : wr.cell? ⟨ga, t, none⟩ = some (.int .i32 (i : Nat)) := by
                        rw [← hie]
                        exact (HB.out.cell (p := ⟨ga, t, none⟩) hgl).trans (hgc t _)
                      have HIE : Hid ((G.adj v)[t]'(by have := HAL.out; omega) = i) := hie
                      have hmem : i ∈ G.adj v := by rw [← hie]; exact List.getElem_mem _
                      have hi6 := (HOK.out.arc v hvl i hmem).1
                      have hiN := (HOK.out.arc v hvl i hmem).2
                      have HGR : Hid (GAt wr bc bh br bp ba G) := HG6.out.below HB.out
                      have HIM : Hid (i ∈ G.adj v) := hmem
                      have hI6 : (i : Int) < ((6 * G.m : Nat) : Int) := by omega
                      have c2 := HGR.out.room
                      have cr := HGR.out.rm i hi6
                      clear hgc hie hmem
                      by_cases hr0 : G.rm i ≤ 0
                      · have HN : Hid (Arcs G v (t + 1) f) := HAR.out.skip (by have := HAL.out; omega) (fun h => by rw [HIE.out] at h; omega)
                        have HUB2 : Hid (∀ x, f x ≤ ub k v (t + 1)) := fun x => by have := HUB.out x; have := ub_t k v t; omega
                        go_wp2
                        go_roundg (gk - 1)
                        case measure => have := HT.out; omega
                        case rel => exact ⟨t + 1, f, by have := HT.out; omega, by go_num, HD.out, HB.out, HBF.out, HN.out, hfv, HUB2.out⟩
                      · have c0 := HGR.out.head
                        have chi := HGR.out.hd i hi6
                        have hcv := HD.out.cellAt v (by omega)
                        rw [dc_get _ hvl] at hcv
                        have hvb : f v ≤ 10000000000000 := Int.le_trans (HUB.out v) (ub_le (by omega) (by omega) (by omega))
                        have hcb1 : cost G.m i ≤ 1 := cost_le _ _
                        have hcb2 : -1 ≤ cost G.m i := by unfold cost; split <;> (try split) <;> omega
                        go_upto_region 35 with fail
                        go_cut [19] (fun nv wx => (∃ z : Int, nv = .int .i64 z ∧ z = f v + cost G.m i) ∧ ∃ m, wx = wr.drewN m)
                        case first =>
                          go_quiet ((go_at_call 9; exact Calls.quiet_of_same (weight i G.m hm (by omega) _)))
                          go_wp2_with fail
                          go_meet
                          exact ⟨⟨_, rfl, by first | rfl | exact IntWalk.i64_in _ (by omega)⟩, _, rfl⟩
                        case rest =>
                          obtain ⟨⟨z, rfl, hz⟩, m5, hw5⟩ := hcut
                          rename World => w5
                          have HD5 : Hid (w5.ownsRow w6.heap.size 2 1 (.slice (some ⟨w6.heap.size, 0, none⟩) G.N G.N) G.N (dc f G.N)) := by rw [hw5]; exact HD.out
                          have HB5 : Hid (Below w6.heap.size w6 w5) := by rw [hw5]; exact HB.out.trans ⟨rfl, rfl, rfl, Nat.le_refl _, fun _ _ => rfl⟩
                          obtain ⟨x, hxe⟩ : ∃ x, G.hd i = x := ⟨_, rfl⟩
                          rw [hxe] at hiN
                          have HX : Hid (G.hd i = x) := hxe
                          rw [hxe]
                          have cx := HD5.out.cellAt x (by omega)
                          rw [dc_get _ hiN] at cx
                          have cfz := HD5.out.frozenAt
                          have hIx : (x : Int) < (G.N : Int) := by omega
                          obtain ⟨fx, hfx⟩ : ∃ y, f x = y := ⟨_, rfl⟩
                          rw [hfx] at cx
                          have HFX : Hid (f x = fx) := hfx
                          have HZ : Hid (z = f v + cost G.m i) := hz
                          clear hxe hfx hz hw5 HD HB HGR c0 chi hcv cr c2 hci
                          by_cases htk : fx < 0 ∨ z < fx
                          · have HTK : Hid (fx < 0 ∨ z < fx) := htk
                            go_upto_region 36 with fail
                            go_cut [155] (fun bv wx => bv = .bool true ∧ wx = w5)
                            case first =>
                              by_cases hneg : fx < 0
                              · clear htk
                                go_wp2_with fail
                                go_meet
                                exact ⟨rfl, rfl⟩
                              · have hlt2 : z < fx := by omega
                                clear htk
                                go_wp2_with fail
                                go_meet
                                exact ⟨rfl, rfl⟩
                            case rest =>
                              obtain ⟨rfl, rfl⟩ := hcut
                              rename World => w5
                              have st := (HD5.out.stored x (.int .i64 z)).1
                              rw [dc_set] at st
                              have hB := HBF.out.take HOK.out HBE.out hvl HIM.out (by omega) hfv (by rw [HX.out, HFX.out, ← HZ.out]; exact HTK.out)
                              rw [HX.out, ← HZ.out] at hB
                              have HS2 : Hid (World.ownsRow _ _ _ _ _ _ _) := st
                              have HB2 : Hid (Below _ _ _) := HB5.out.setCell (p := ⟨w6.heap.size, x, none⟩) (Nat.le_refl _) (.int .i64 z)
                              have HBF2 : Hid (BF G D lv k v (upd f x z)) := hB.1
                              have HA2 : Hid (Arcs G v (t + 1) (upd f x z)) := (HAR.out.step hB.2.1 hB.2.2).skip (by have := HAL.out; omega) (fun _ => by
                                rw [HIE.out, HX.out, upd_same, hB.2.2]
                                have h1 := (hB.1.val x)
                                rw [upd_same] at h1
                                have h2 := HZ.out
                                have h3 := HOK.out.pos i (by omega)
                                omega)
                              have HFV : Hid (0 ≤ upd f x z v) := by show 0 ≤ upd f x z v; rw [hB.2.2]; exact hfv
                              have HU2 : Hid (∀ y, upd f x z y ≤ ub k v (t + 1)) := fun y => by
                                have h1 := ub_t k v t
                                by_cases e : y = x
                                · rw [e, upd_same]; have := HUB.out v; have := HZ.out; omega
                                · rw [upd_other _ _ e]; have := HUB.out y; omega
                              clear htk st hB
                              go_wp2
                              go_roundg (gk - 1)
                              case measure => have := HT.out; omega
                              case rel => exact ⟨t + 1, _, by have := HT.out; omega, by go_num, HS2.out, HB2.out, HBF2.out, HA2.out, HFV.out, HU2.out⟩
                          · have hs1 : ¬ fx < 0 := by omega
                            have hs2 : ¬ z < fx := by omega
                            have HN : Hid (Arcs G v (t + 1) f) := HAR.out.skip (by have := HAL.out; omega) (fun _ => by rw [HIE.out, HX.out, HFX.out]; have := HZ.out; omega)
                            have HU2 : Hid (∀ y, f y ≤ ub k v (t + 1)) := fun y => by have := HUB.out y; have := ub_t k v t; omega
                            clear htk
                            go_wp2
                            go_roundg (gk - 1)
                            case measure => have := HT.out; omega
                            case rel => exact ⟨t + 1, f, by have := HT.out; omega, by go_num, HD5.out, HB5.out, HBF.out, HN.out, hfv, HU2.out⟩
                    · have hI3 : ¬ (t : Int) < (al : Int) := by omega
                      have hte : t = al := by omega
                      have HN : Hid (BF G D lv k (v + 1) f) := HBF.out.node (fun _ => by
                        have h := HAR.out
                        rw [hte, ← HAL.out] at h
                        exact h)
                      have HUB2 : Hid (∀ x, f x ≤ ub k (v + 1) 0) := fun x => Int.le_trans (HUB.out x) (ub_v (by omega))
                      clear hte
                      go_wp2
                      go_roundg (G.N - (v + 1))
                      case measure => have := HV.out; omega
                      case rel => exact ⟨v + 1, f, by omega, by go_num, HD.out, HB.out, HN.out, HUB2.out⟩
              · have hI2 : ¬ (v : Int) < (G.N : Int) := by omega
                have hve : v = G.N := by omega
                have HN : Hid (BF G D lv (k + 1) 0 f) := by
                  have h := HBF.out
                  rw [hve] at h
                  exact h.round HBE.out
                go_wp2
                go_roundg (G.N - (k + 1))
                case measure => have := HK.out; omega
                case rel => exact ⟨k + 1, f, by omega, by go_num, HD.out, HB.out, HN.out, fun x => Int.le_trans (HUB.out x) (ub_k (by omega))⟩
          · have hI : ¬ (k : Int) < (G.N : Int) := by omega
            have hke : k = G.N := by omega
            have HF : Hid (∀ x, x < G.N → f x = D x) := by
              have h := HBF.out
              rw [hke] at h
              exact h.fin HBE.out
            clear hke
            go_wp2_with fail
            go_meet
            exact ⟨f, HD.out, HB.out, HF.out⟩
      case rest =>
        obtain ⟨f, hd, hb, hfd⟩ := hcut
        rename World => wz
        have HGZ : Hid (GAt wz bc bh br bp ba G) := HG6.out.below hb
        have key : ∀ {p : Addr} {v : Value}, w6.cell? p = some v → wz.cell? p = some v := fun hcl => (hb.cell (World.block_lt_of_cell? w6 _ hcl)).trans hcl
        have HCZ : Hid (∀ j, j < 6 * G.m → wz.cell? ⟨g5, j, none⟩ = some (.int .i32 (G.hd j : Nat))) := fun j hj => key (HC6.out j hj)
        have HDZ : Hid (∀ j, j < 6 * G.m → wz.cell? ⟨g4, j, none⟩ = some (.int .i64 (G.rm j))) := fun j hj => key (HD6.out j hj)
        have HTZ : Hid (∀ x, x < G.N → wz.cell? ⟨bt, x, none⟩ = some (.int .i64 (D x))) := fun x hx => key (HT6.out x hx)
        have HWZ : Hid (∀ x, x < G.N → wz.cell? ⟨w6.heap.size, x, none⟩ = some (.int .i64 (D x))) := fun x hx => by
          rw [hd.cellAt x (by omega), dc_get _ hx, hfd x hx]
        have HBZ : Hid (Below w.heap.size w wz) := HB6.out.trans (hb.mono HB6.out.size)
        clear hd hb hfd key HG6 HC6 HD6 HT6 HB6
        have c2 := HGZ.out.room
        have c0 := HGZ.out.head
        go_wp2_with fail
        refine (equal10 bt w6.heap.size G.N G.N G.N D wz (by omega) HTZ.out HWZ.out).mono ?_
        rintro e wa ⟨rfl, ma, rfl⟩
        go_wp2_with fail
        refine (equal11 br g4 (6 * G.m) (6 * G.m) c4 G.rm (wz.drewN ma) (by omega) (fun j hj => HGZ.out.rm j hj) (fun j hj => HDZ.out j hj)).mono ?_
        rintro e wb ⟨rfl, mb, rfl⟩
        go_wp2_with fail
        refine (equal12 bh g5 (6 * G.m) (6 * G.m) c5 (fun j => (G.hd j : Int)) (wz.drewN (ma + mb)) (by omega) (fun j hj => HGZ.out.hd j hj) (fun j hj => HCZ.out j hj)).mono ?_
        rintro e wq ⟨rfl, mc, rfl⟩
        go_wp2
        go_ret
        exact ⟨rfl, HBZ.out.trans ⟨rfl, rfl, rfl, Nat.le_refl _, fun _ _ => rfl⟩⟩
end Go.Proofs.Ybulkcmrw.W
