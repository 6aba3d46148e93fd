/-
  LawS4405ACut: the walk.
-/
import Derived.Test.YbulkcmeyCut
import Derived.Deep.CutBlock
import Derived.Deep.QuietTactic
import Derived.BigQuiet
namespace Go.Proofs.Ybulkcmey.Rec
open Go.RowKit
open Go.Proofs.Ybulkcmey.Hint

/-- An entry as it came in. -/
structure Raw where
  flags : UInt8
  key : ByteArray
  size : Nat

def ent (r : Raw) : Ent := ⟨r.flags, r.key.data.toList.take 1024, r.size⟩

/-- The arguments' cells. -/
def Lies (w : World) (b off : Nat) (rs : List Raw) : Prop :=
  ∀ i (h : i < rs.length), w.cell? ⟨b, off + i * 3, none⟩ = some (.int .u8 rs[i].flags.toNat) ∧ w.cell? ⟨b, off + i * 3 + 1, none⟩ = some (.string rs[i].key) ∧ w.cell? ⟨b, off + i * 3 + 2, none⟩ = some (.int .u32 rs[i].size)

/-- Two rows of other element types share no block. -/
theorem apart {w : World} {B B' : Nat} {e e' : TypeId} {v v' : Value} {n n' s s' : Nat} {xs xs' : List Value} (h : w.ownsRow B e s v n xs) (h' : w.ownsRow B' e' s' v' n' xs') (hne : e ≠ e') : v.ownBlock = none ∨ v.ownBlock ≠ v'.ownBlock := by
  rcases h.2 with ⟨rfl, _⟩ | ⟨g, cap, cur, rfl, _, hg, _⟩
  · exact .inl rfl
  · right
    rcases h'.2 with ⟨rfl, _⟩ | ⟨g', cap', cur', rfl, _, hg', _⟩
    · simp [Value.ownBlock]
    · simp only [Value.ownBlock]
      intro e
      simp at e
      subst e
      rw [hg] at hg'
      simp at hg'
      exact hne hg'.2

theorem shape {w : World} {B : Nat} {e : TypeId} {v : Value} {n s : Nat} {xs : List Value} (h : w.ownsRow B e s v n xs) (hn : 0 < n) : ∃ g c, v = .slice (some ⟨g, 0, none⟩) n c := by
  rcases h.2 with ⟨_, h0⟩ | ⟨g, cap, cur, rfl, _⟩
  · omega
  · exact ⟨g, cap, rfl⟩

theorem key_long (k : ByteArray) : (k.extract 0 1024).data.toList = k.data.toList.take 1024 := by simp
theorem key_short (k : ByteArray) (h : k.size ≤ 1024) : k.data.toList = k.data.toList.take 1024 := by
  rw [List.take_of_length_le]
  rw [Array.length_toList]
  exact h

/-- What a round of the building loop keeps: the bytes' row, the starts' row, the entry's block, old memory. -/
structure St (w : World) (B E : Nat) (eb : Array Value) (wx : World) (bv sv : Value) (n m : Nat) (bs ss : List Value) : Prop where
  row5 : wx.ownsRow B 5 1 bv n bs
  row3 : wx.ownsRow B 3 1 sv m ss
  blk : wx.heap[E]? = some (.cells eb 28 (0, 0))
  bel : Below B w wx
  size : B ≤ wx.heap.size

theorem block_kept {w w' : World} {row : Option Nat} (hg : w.grownBy w' row) {E : Nat} {cs : Array Value} {t : TypeId} {f : Nat × Nat} (h : w.heap[E]? = some (.cells cs t f))
    {B : Nat} {e : TypeId} {s n : Nat} {v : Value} {xs : List Value} (ho : w.ownsRow B e s v n xs) (hr : row = v.ownBlock) (hne : t ≠ e) : w'.heap[E]? = some (.cells cs t f) := by
  rw [hg.block E (Array.getElem?_eq_some_iff.1 h).1, h]
  subst hr
  rcases ho.2 with ⟨rfl, _⟩ | ⟨g, cap, cur, rfl, _, hgg, _⟩
  · simp [Value.ownBlock]
  · simp only [Value.ownBlock]
    intro e
    simp at e
    subst e
    rw [h] at hgg
    simp at hgg
    exact hne hgg.2.1

theorem St.alloc {w : World} {B E : Nat} {eb : Array Value} {wx : World} {bv sv : Value} {n m : Nat} {bs ss : List Value} (h : St w B E eb wx bv sv n m bs ss) (o : Obj) : St w B E eb (wx.alloc o) bv sv n m bs ss :=
  ⟨h.row5.alloc o, h.row3.alloc o, (Below.heap_alloc wx o E (Array.getElem?_eq_some_iff.1 h.blk).1).trans h.blk, h.bel.alloc h.size o, by have := h.size; simp; omega⟩

theorem St.grow5 {w : World} {B E : Nat} {eb : Array Value} {wx : World} {bv sv : Value} {n m : Nat} {bs ss : List Value} (h : St w B E eb wx bv sv n m bs ss)
    {w' : World} {bv' : Value} {n' : Nat} {bs' : List Value} (hg : wx.grownBy w' bv.ownBlock) (ho : w'.ownsRow B 5 1 bv' n' bs') : St w B E eb w' bv' sv n' m bs' ss :=
  ⟨ho, h.row3.kept hg (apart h.row3 h.row5 (by decide)), block_kept hg h.blk h.row5 rfl (by decide), h.bel.grown hg h.size (fun k hk => (h.row5.lt k hk).1), Nat.le_trans h.size hg.size⟩

theorem St.grow3 {w : World} {B E : Nat} {eb : Array Value} {wx : World} {bv sv : Value} {n m : Nat} {bs ss : List Value} (h : St w B E eb wx bv sv n m bs ss)
    {w' : World} {sv' : Value} {m' : Nat} {ss' : List Value} (hg : wx.grownBy w' sv.ownBlock) (ho : w'.ownsRow B 3 1 sv' m' ss') : St w B E eb w' bv sv' n m' bs ss' :=
  ⟨h.row5.kept hg (apart h.row5 h.row3 (by decide)), ho, block_kept hg h.blk h.row3 rfl (by decide), h.bel.grown hg h.size (fun k hk => (h.row3.lt k hk).1), Nat.le_trans h.size hg.size⟩

theorem St.cell {w : World} {B E : Nat} {eb : Array Value} {wx : World} {bv sv : Value} {n m : Nat} {bs ss : List Value} (h : St w B E eb wx bv sv n m bs ss) (k : Nat) : wx.cell? ⟨E, k, none⟩ = eb[k]? := by
  simp [World.cell?, h.blk]

theorem oneI (k : IntKind) (x : Int) : ∀ u ∈ [Value.int k x], u.oneCell' = true := by
  intro u hu
  simp at hu
  subst hu
  rfl

theorem newI (w : World) (v : Value) (t : TypeId) : ∀ j u, [v][j]? = some u → (w.alloc (.cells #[v] t)).cell? ((⟨w.heap.size, 0, none⟩ : Addr).add j) = some u := by
  intro j u hj
  match j, hj with
  | 0, hj => simp at hj; subst hj; simp [Addr.add]

theorem size_list (k : ByteArray) : k.size = k.data.toList.length := by rw [Array.length_toList]; rfl

theorem bytes_step {es : List Ent} {i : Nat} (h : i < es.length) {kb : ByteArray} (hk : kb.data.toList = es[i].key) {fl : UInt8} {sz : Nat} (hfl : es[i].flags = fl) (hsz : es[i].size = sz) :
    Lib.byteCells (bufOf (es.take i)) ++ Value.int .u8 fl.toNat :: (Lib.byteCells (Lib.leBytes 2 kb.size) ++ (Lib.byteCells (Lib.leBytes 4 sz) ++ Lib.strCells kb)) = Lib.byteCells (bufOf (es.take (i + 1))) ∧
    posAt es i + 1 + 2 + 4 + kb.size = posAt es (i + 1) := by
  subst hfl hsz
  have hz : kb.size = es[i].key.length := by rw [size_list, hk]
  refine ⟨?_, ?_⟩
  · rw [take_snoc h, bufOf_snoc, hz, Lib.strCells_eq, hk]
    simp [Lib.byteCells, enc]
  · rw [posAt_succ h, hz]
    omega

theorem cells_prefix {a b : List UInt8} {k : Nat} {u : Value} (h : (Lib.byteCells a)[k]? = some u) : (Lib.byteCells (a ++ b))[k]? = some u := by
  rw [Lib.byteCells_append]
  rw [List.getElem?_append_left (List.getElem?_eq_some_iff.1 h).1]
  exact h

theorem row_cell {w : World} {B : Nat} {e : TypeId} {g n c : Nat} {xs : List Value} (h : w.ownsRow B e 1 (.slice (some ⟨g, 0, none⟩) n c) n xs) {k : Nat} {u : Value} (hk : xs[k]? = some u) : w.cell? ⟨g, k, none⟩ = some u := by
  have := h.cells rfl k u hk
  have hadd : (⟨g, 0, none⟩ : Addr).add k = ⟨g, k, none⟩ := by unfold Addr.add; split <;> simp_all
  rw [hadd] at this
  exact this

set_option maxHeartbeats 2000000 in
set_option maxRecDepth 100000 in
theorem lawACut (a0 : Option Addr) (cap : Nat) (b off : Nat) (rs : List Raw) (rel oldEnd : Int) (w : World) (hs : 0 < rs.length → a0 = some ⟨b, off, none⟩) (hlie : Lies w b off rs) (hbw : 0 < rs.length → b < w.heap.size)
    (hsz : ∀ r ∈ rs, r.size < 4294967296) (h0 : -2147483648 ≤ rel) (h1 : rel ≤ 2147483647) (hrl : rs.length ≤ maxLen) :
    Calls Yba.prog 3 #[.slice a0 rs.length cap, .int .i32 rel, .int .i64 oldEnd] w fun e w' => e = .returned (.bool true) ∧ Below w.heap.size w w' := by
  by_cases hbig : 256 < rs.length
  · unfold maxLen at hrl
    go_enter Yba.func3, Yba.ntmps3
    go_wp2
    go_ret
    exact ⟨rfl, Below.refl _ _⟩
  · have hfine : Fine (rs.map ent) := by
      intro e he
      obtain ⟨r, hr, rfl⟩ := List.mem_map.1 he
      exact ⟨by simp [ent, List.length_take]; omega, hsz r hr⟩
    have HL : Hid (Lies w b off rs) := hlie
    have HS : Hid (0 < rs.length → a0 = some ⟨b, off, none⟩) := hs
    have HW : Hid (0 < rs.length → b < w.heap.size) := hbw
    clear hlie hs hbw
    obtain ⟨i3, hi3, hz30, hz31, hz32⟩ := info_parts info3
    obtain ⟨i5, hi5, hz50, hz51, hz52⟩ := info_parts info5
    have hd : decide ((256 : Int) < (rs.length : Int)) = false := by simp; omega
    have hle : rs.length ≤ 256 := by omega
    clear hbig
    go_enter Yba.func3, Yba.ntmps3
    go_wp2_with fail
    refine (fileHeader w).mono ?_
    rintro e w1 ⟨bv, rfl, hob, hgb⟩
    have hz1 : w.heap.size ≤ w1.heap.size := hgb.size
    go_wp2_with (at_make; refine wpList_make_own _ rfl _ _ 25 rfl w.heap.size 3 i3 (.int .i64 0) 1 Yba.underlying25 hi3 hz30 hz31 .i64 .i64 _ rs.length rfl rfl rfl ?m1 ?m2 hz1 ?_)
    case m1 => rw [hz32]; omega
    case m2 => exact hrl
    intro w2 hos hgs
    have R0 : w2.ownsRow w.heap.size 5 1 bv 12 (Lib.byteCells hdr) := hob.kept hgs (by simp; cases bv.ownBlock <;> simp)
    have hB2 : Below w.heap.size w w2 := ((Below.refl _ w).grown hgb (Nat.le_refl _) (by simp)).grown hgs hz1 (by simp)
    clear hob hgb hgs hz1
    generalize w1.heap.size = S at *
    obtain ⟨es, hes⟩ : ∃ es, es = rs.map ent := ⟨_, rfl⟩
    rw [← hes] at hfine
    have hel : es.length = rs.length := by rw [hes]; simp
    have HE : Hid (∀ i (h : i < rs.length) (h' : i < es.length), es[i] = ent rs[i]) := by intro i h h'; simp [hes]
    have HEL : Hid (es.length = rs.length) := hel
    have hel2 : es.length ≤ 256 := by omega
    clear hes hel
    obtain ⟨bg, bc, rfl⟩ := shape R0 (by omega)
    go_wp2_with fail
    go_loopg [8, 9, 30] rs.length (fun gk bv sv iv wr => ∃ i g c, i + gk = rs.length ∧ bv = .slice (some ⟨g, 0, none⟩) (posAt es i) c ∧ sv = .slice (some ⟨S, 0, none⟩) i rs.length ∧ iv = .int .i64 (i : Nat) ∧
      wr.ownsRow w.heap.size 5 1 (.slice (some ⟨g, 0, none⟩) (posAt es i) c) (posAt es i) (Lib.byteCells (bufOf (es.take i))) ∧ wr.ownsRow w.heap.size 3 1 (.slice (some ⟨S, 0, none⟩) i rs.length) i ((List.range i).map fun j => .int .i64 (posAt es j : Nat)) ∧ Below w.heap.size w wr)
    case atStart => exact ⟨0, bg, bc, by omega, by rw [posAt_zero], rfl, rfl, by rw [posAt_zero]; simpa [bufOf] using R0, hos, hB2⟩
    case round =>
      obtain ⟨i, g, c, hi, rfl, rfl, rfl, hob, hosr, hbel⟩ := hrel
      have HI : Hid (i + gk = rs.length) := hi
      have hi : i ≤ rs.length := by omega
      clear R0 hB2 hos
      have hpl := len_le hfine
      have hpl2 := posAt_le es i
      by_cases hlt : i < rs.length
      · have e0 := HS.out (by omega)
        have hbw := HW.out (by omega)
        subst e0
        obtain ⟨ca, cb, cc⟩ := HL.out i hlt
        have c0 := (hbel.cell (p := ⟨b, off + i * 3, none⟩) hbw).trans ca
        have c1 := (hbel.cell (p := ⟨b, off + i * 3 + 1, none⟩) hbw).trans cb
        have c2 := (hbel.cell (p := ⟨b, off + i * 3 + 2, none⟩) hbw).trans cc
        clear ca cb cc
        have hlt' : i < es.length := by have := HEL.out; omega
        have hei : Hid (es[i] = ent rs[i]) := HE.out i hlt hlt'
        go_upto_if 38 with fail
        go_cut [12] (fun kv wx => ∃ kb : ByteArray, kv = .string kb ∧ kb.data.toList = es[i].key ∧ wx = wr.alloc (.cells #[.int .u8 rs[i].flags.toNat, .string rs[i].key, .int .u32 rs[i].size] 28))
        case first =>
          have hkk : Hid (es[i].key = rs[i].key.data.toList.take 1024) := by rw [hei.out]; rfl
          by_cases hlong : 1024 < rs[i].key.size
          · go_wp2_with fail
            go_meet
            exact ⟨_, rfl, by rw [hkk.out]; exact key_long _, rfl⟩
          · go_wp2_with fail
            go_meet
            exact ⟨_, rfl, by rw [hkk.out]; exact key_short _ (by omega), rfl⟩
        case rest =>
          obtain ⟨kb, rfl, hkb, hwc⟩ := hcut
          have HK : Hid (kb.data.toList = es[i].key) := hkb
          have hzw : w.heap.size ≤ wr.heap.size := hbel.size
          have s1 : St w w.heap.size wr.heap.size #[.int .u8 rs[i].flags.toNat, .string rs[i].key, .int .u32 rs[i].size] wc (.slice (some ⟨g, 0, none⟩) (posAt es i) c) (.slice (some ⟨S, 0, none⟩) i rs.length) (posAt es i) i (Lib.byteCells (bufOf (es.take i))) ((List.range i).map fun j => .int .i64 (posAt es j : Nat)) := by
            rw [hwc]
            exact ⟨hob.alloc _, hosr.alloc _, heap_alloc_new wr _, hbel.alloc hzw _, by simp; omega⟩
          clear hwc hkb hob hosr hbel c0 c1 c2
          have s1a := s1.alloc (.cells #[.int .i64 (posAt es i : Nat)] 3)
          have hkl := (hfine es[i] (List.getElem_mem hlt')).1
          have hkz : kb.size ≤ 1024 := by
            have h : kb.data.toList.length ≤ 1024 := by rw [HK.out]; exact hkl
            rw [Array.length_toList] at h
            exact h
          have hfl : Hid (es[i].flags = rs[i].flags) := by rw [hei.out]; rfl
          have hss : Hid (es[i].size = rs[i].size) := by rw [hei.out]; rfl
          have hszi : rs[i].size < 4294967296 := hsz _ (List.getElem_mem hlt)
          unfold maxLen at hrl
          go_wp2_with (at_builtin; refine wpList_append_fits _ rfl (.tmp 41) (.tmp 44) 25 rfl w.heap.size 3 i3 1 Yba.underlying25 hi3 hz31 S i rs.length _ rfl s1a.row3 _ 1 1 [.int .i64 (posAt es i : Nat)] rfl rfl (newI _ _ _) (oneI _ _) hlt ?_)
          intro w2 hos2 hgs2
          have s2 := s1a.grow3 hgs2 hos2
          clear s1a s1 hgs2 hos2
          have f2 : w2.cell? ⟨wr.heap.size, 0, none⟩ = some (.int .u8 rs[i].flags.toNat) := s2.cell 0
          have s2a := s2.alloc (.cells #[.int .u8 rs[i].flags.toNat] 5)
          go_wp2_with (at_builtin; refine wpList_append_own _ rfl (.tmp 46) (.tmp 49) 23 rfl w.heap.size 5 i5 (.int .u8 0) 1 1 Yba.underlying23 hi5 hz50 hz51 hz52 rfl (by decide) _ _ _ rfl s2a.row5 _ 1 1 [.int .u8 rs[i].flags.toNat] rfl rfl (newI _ _ _) (oneI _ _) ?d1 ?d2 s2a.size ?_)
          case d1 => unfold maxLen; omega
          case d2 => omega
          intro v3 w3 ho3 hg3 _
          have s3 := s2a.grow5 hg3 ho3
          clear f2 s2a s2 ho3 hg3
          have f3 : w3.cell? ⟨wr.heap.size, 2, none⟩ = some (.int .u32 rs[i].size) := s3.cell 2
          go_wp2_with fail
          refine (appendU16 w.heap.size _ kb.size (by omega) v3 _ w3 s3.row5 s3.size (by omega)).mono ?_
          rintro e w4 ⟨v4, rfl, ho4, hg4⟩
          have s4 := s3.grow5 hg4 ho4
          clear s3 ho4 hg4 f3
          have f4 : w4.cell? ⟨wr.heap.size, 2, none⟩ = some (.int .u32 rs[i].size) := s4.cell 2
          go_wp2_with fail
          refine (appendU32 w.heap.size _ rs[i].size hszi v4 _ w4 s4.row5 s4.size (by omega)).mono ?_
          rintro e w5 ⟨v5, rfl, ho5, hg5⟩
          have s5 := s4.grow5 hg5 ho5
          clear s4 ho5 hg5 f4
          go_wp2_with (at_builtin; refine Lib.wpList_append_own_string _ rfl (.tmp 62) (.tmp 63) 23 9 rfl w.heap.size 5 i5 Yba.underlying23 Yba.underlying9 hi5 hz50 hz51 hz52 _ _ _ rfl s5.row5 kb rfl ?g1 ?g2 s5.size ?_)
          case g1 => unfold maxLen; omega
          case g2 => omega
          intro v6 w6 ho6 hg6 _
          have s6 := s5.grow5 hg6 ho6
          clear s5 ho6 hg6
          go_wp2_with fail
          go_roundg (gk - 1)
          case measure => have := HI.out; omega
          case rel =>
            obtain ⟨hb1, hb2⟩ := bytes_step hlt' HK.out hfl.out hss.out
            have hr := s6.row5
            rw [hb1, hb2] at hr
            obtain ⟨g', c', rfl⟩ := shape hr (by omega)
            refine ⟨i + 1, g', c', by have := HI.out; omega, rfl, rfl, by go_num, hr, ?_, s6.bel⟩
            have := s6.row3
            rw [List.range_succ, List.map_append]
            exact this
      · have hin : i = rs.length := by omega
        subst hin
        have hpa : posAt es rs.length = (bufOf es).length := by rw [← HEL.out]; exact posAt_all es
        have htk : es.take rs.length = es := by rw [← HEL.out]; simp
        rw [htk] at hob
        rw [hpa] at hob ⊢
        clear htk hpa hpl2
        have hzw : w.heap.size ≤ wr.heap.size := hbel.size
        go_wp2_with fail
        refine (clone w.heap.size _ c g (bufOf es) wr hob (by omega)).mono ?_
        rintro e w3 ⟨g', c', rfl, how, hgw⟩
        have hob3 := hob.kept hgw (by simp [Value.ownBlock])
        have hos3 := hosr.kept hgw (by simp [Value.ownBlock])
        have hB3 := hbel.grown hgw hzw (by simp)
        have hz3 : wr.heap.size ≤ w3.heap.size := hgw.size
        have hgl : g < w3.heap.size := (hob3.lt g rfl).2
        have hgl' : g' < w3.heap.size := (how.lt g' rfl).2
        have hSl : S < w3.heap.size := (hos3.lt S rfl).2
        clear hob hosr hbel hgw
        go_wp2_with fail
        refine (cut w.heap.size w3.heap.size g c es (24 + rel) oldEnd _ hfine hel2 (heap_alloc_new w3 _) (hob3.alloc _)).mono ?_
        rintro e w5 ⟨rfl, j, hcut, hblk, hg5⟩
        have hob5 := (hob3.alloc _).kept hg5 (by simp [Value.ownBlock]; omega)
        have hos5 := (hos3.alloc _).kept hg5 (by simp [Value.ownBlock]; omega)
        have how5 := (how.alloc _).kept hg5 (by simp [Value.ownBlock]; omega)
        have hB5 : Below w.heap.size w w5 := (hB3.alloc (by omega) _).grown hg5 (by simp; omega) (by intro k hk; simp at hk; omega)
        have HC : Hid (IsCut es (24 + rel) j) := hcut
        have hjl : j ≤ es.length := hcut.1
        have hpj := posAt_le es j
        have hej := endAt_le hfine j
        have k0 : w5.cell? ⟨w3.heap.size, 0, none⟩ = some (.slice (some ⟨g, 0, none⟩) (posAt es j) c) := by simp [World.cell?, hblk]
        have k1 : w5.cell? ⟨w3.heap.size, 1, none⟩ = some (.int .i64 (endAt es j : Nat)) := by simp [World.cell?, hblk]
        have HO : Hid (w5.ownsRow w.heap.size 5 1 (.slice (some ⟨g, 0, none⟩) (bufOf es).length c) (bufOf es).length (Lib.byteCells (bufOf es))) := hob5
        have HT : Hid (w5.ownsRow w.heap.size 3 1 (.slice (some ⟨S, 0, none⟩) rs.length rs.length) rs.length ((List.range rs.length).map fun j => .int .i64 (posAt es j : Nat))) := hos5
        have HN : Hid (w5.ownsRow wr.heap.size 5 1 (.slice (some ⟨g', 0, none⟩) (bufOf es).length c') (bufOf es).length (Lib.byteCells (bufOf es))) := how5
        clear hob3 hos3 how hob5 hos5 how5 hblk hg5 hcut hB3
        go_upto_block 2 with fail
        go_cut [15, 16] (fun wl we wx => wl = .int .i64 (posAt es j : Nat) ∧ we = .int .i64 (endAt es j : Nat) ∧ wx = w5)
        case first =>
          go_wp2_with fail
          go_loopg [15, 16, 17] rs.length (fun gk wl we iv wr => ∃ q, q + gk = rs.length ∧ wl = .int .i64 ((bufOf es).length : Nat) ∧ we = .int .i64 (endAt es q : Nat) ∧ iv = .int .i64 (q : Nat) ∧ (∀ t, t < q → (endAt es t : Int) < 24 + rel) ∧ wr = w5)
          case atStart => exact ⟨0, by omega, rfl, by rw [endAt_zero]; rfl, rfl, fun _ h => absurd h (Nat.not_lt_zero _), rfl⟩
          case round =>
            obtain ⟨q, hq, rfl, rfl, rfl, hqs, rfl⟩ := hrel
            have HQ : Hid (∀ t, t < q → (endAt es t : Int) < 24 + rel) := hqs
            have HQI : Hid (q + gk = rs.length) := hq
            have hq : q ≤ rs.length := by omega
            clear hqs
            have heq := endAt_le hfine q
            by_cases hlt : q < rs.length
            · have e0 := HS.out (by omega)
              have hbw := HW.out (by omega)
              subst e0
              have c2 := (hB5.cell (p := ⟨b, off + q * 3 + 2, none⟩) hbw).trans (HL.out q hlt).2.2
              have hlt' : q < es.length := by have := HEL.out; omega
              have hss : Hid (es[q].size = rs[q].size) := by rw [HE.out q hlt hlt']; rfl
              have hszi : rs[q].size < 4294967296 := hsz _ (List.getElem_mem hlt)
              have d3 : wr.cell? ⟨S, q, none⟩ = some (.int .i64 (posAt es q : Nat)) := by
                have := HT.out.cells rfl q (.int .i64 (posAt es q : Nat)) (by simp [hlt])
                have hadd : (⟨S, 0, none⟩ : Addr).add q = ⟨S, q, none⟩ := by unfold Addr.add; split <;> simp_all
                rw [hadd] at this
                exact this
              by_cases hcc : (24 : Int) + rel ≤ (endAt es q : Int)
              · have hjq : Hid (q = j) := IsCut.unique ⟨by omega, HQ.out, fun _ => hcc⟩ HC.out
                go_wp2_with fail
                go_meet
                exact ⟨by rw [hjq.out], by rw [hjq.out], rfl⟩
              · go_wp2_with fail
                go_roundg (gk - 1)
                case measure => have := HQI.out; omega
                case rel =>
                  refine ⟨q + 1, by have := HQI.out; omega, rfl, ?_, by go_num, ?_, rfl⟩
                  · rw [endAt_succ hlt', hss.out]; go_num
                  · intro t ht
                    by_cases e : t = q
                    · subst e; omega
                    · exact HQ.out t (by omega)
            · have hjq : Hid (q = j) := IsCut.unique ⟨by have := HEL.out; omega, HQ.out, fun h => absurd h (by have := HEL.out; omega)⟩ HC.out
              go_wp2_with fail
              go_meet
              have hql : q = es.length := by have := HEL.out; omega
              refine ⟨?_, by rw [hjq.out], rfl⟩
              rw [← hjq.out, hql, posAt_all]
        case rest =>
          obtain ⟨rfl, rfl, rfl⟩ := hcut
          have q1 : Hid (∀ n c2, Calls Yba.prog 14 #[.slice (some ⟨g, 0, none⟩) (posAt es j) c, .slice (some ⟨g', 0, none⟩) (posAt es j) c2] (wc.drewN n) fun e w' => e = .returned (.bool true) ∧ w' = wc.drewN n) := by
            intro n c2
            refine equalSame g (posAt es j) c g' c2 (bufOf (es.take j)) (wc.drewN n) rfl ?_ ?_
            · intro k u hk
              have hk2 : (Lib.byteCells (bufOf es))[k]? = some u := by rw [bufOf_split es j]; exact cells_prefix hk
              simpa using row_cell HO.out hk2
            · intro k u hk
              have hk2 : (Lib.byteCells (bufOf es))[k]? = some u := by rw [bufOf_split es j]; exact cells_prefix hk
              simpa using row_cell HN.out hk2
          have q2 : Hid (∀ n, Calls Yba.prog 14 #[.slice (some ⟨g, 0, none⟩) (bufOf es).length c, .slice (some ⟨g', 0, none⟩) (bufOf es).length c'] (wc.drewN n) fun e w' => e = .returned (.bool true) ∧ w' = wc.drewN n) := by
            intro n
            refine equalSame g (bufOf es).length c g' c' (bufOf es) (wc.drewN n) rfl ?_ ?_
            · intro k u hk
              simpa using row_cell HO.out hk
            · intro k u hk
              simpa using row_cell HN.out hk
          have hcc : (bufOf es).length ≤ c' ∧ c' ≤ maxLen := by
            rcases HN.out.2 with ⟨h, _⟩ | ⟨_, _, _, h, _, _, h1, h2, _⟩
            · simp at h
            · simp at h; omega
          unfold maxLen at hcc hrl
          have hI : (0 : Int) ≤ (posAt es j : Int) ∧ (posAt es j : Int) ≤ (c' : Int) := by omega
          go_wp2_with fail
          go_quiet ((first | (go_at_call_of 14 (Value.slice (some ⟨g, 0, none⟩) (posAt es j) c); exact Calls.quiet_of_same (q1.out _ _)) | (go_at_call_of 14 (Value.slice (some ⟨g, 0, none⟩) (bufOf es).length c); exact Calls.quiet_of_same (q2.out _))))
          go_wp2
          go_ret
          exact ⟨rfl, hB5.trans ⟨rfl, rfl, rfl, Nat.le_refl _, fun _ _ => rfl⟩⟩
end Go.Proofs.Ybulkcmey.Rec
