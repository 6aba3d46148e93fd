/-
  (*Hint).Add, NewHint, End, Entry.flags, Entry.withFlags at this program.
-/
import Derived.Test.YbulkcmeyCut
import Derived.Deep.RegionLaw
import Derived.Deep.AppendLies
import Derived.Deep.CutBlock
namespace Go.Proofs.Ybulkcmey.Rec
open Go.RowKit
open Go.Proofs.Ybulkcmey.Hint

theorem oneI (k : IntKind) (x : Int) : ∀ u ∈ [Value.int k x], u.oneCell' = true := by
  intro u hu
  simp at hu
  subst hu
  rfl

theorem newI (w : World) (v : Value) (t : TypeId) : ∀ j u, [v][j]? = some u → (w.alloc (.cells #[v] t)).cell? ((⟨w.heap.size, 0, none⟩ : Addr).add j) = some u := by
  intro j u hj
  match j, hj with
  | 0, hj => simp at hj; subst hj; simp [Addr.add]

theorem shape {w : World} {B : Nat} {e : TypeId} {v : Value} {n s : Nat} {xs : List Value} (h : w.ownsRow B e s v n xs) (hn : 0 < n) : ∃ g c, v = .slice (some ⟨g, 0, none⟩) n c := by
  rcases h.2 with ⟨_, h0⟩ | ⟨g, cap, cur, rfl, _⟩
  · omega
  · exact ⟨g, cap, rfl⟩

theorem newK {w : World} {kg : Nat} {v : Value} (h : w.cell? ⟨kg, 0, none⟩ = some v) : ∀ j u, [v][j]? = some u → w.drew.cell? ((⟨kg, 0, none⟩ : Addr).add j) = some u := by
  intro j u hj
  match j, hj with
  | 0, hj => simp at hj; subst hj; simpa [Addr.add] using h

theorem bytes_entry (L : List UInt8) (kb : UInt8) (sz : Nat) : Lib.byteCells (L ++ enc ⟨0, [kb], sz⟩) = Lib.byteCells L ++ [.int .u8 0] ++ Lib.byteCells (Lib.leBytes 2 1) ++ Lib.byteCells (Lib.leBytes 4 sz) ++ [.int .u8 kb.toNat] := by
  simp [Lib.byteCells, enc]

theorem ownsRow_other {w : World} {B : Nat} {e : TypeId} {v : Value} {n : Nat} {xs : List Value} (h : w.ownsRow B e 1 v n xs) {hb : Nat} {cs : Array Value} {t : TypeId} (hk : w.heap[hb]? = some (.cells cs t (0, 0))) (ht : e ≠ t) (o : Nat) (u : Value) :
    (w.setCell ⟨hb, o, none⟩ u).ownsRow B e 1 v n xs := by
  refine ⟨h.1, ?_⟩
  rcases h.2 with hn | ⟨g, cap, cur, rfl, hbg, hgg, rest⟩
  · exact .inl hn
  · refine .inr ⟨g, cap, cur, rfl, hbg, ?_, rest⟩
    rw [Below.heap_setCell w ⟨hb, o, none⟩ u g ?_]
    · exact hgg
    · intro e'
      have e'' : g = hb := e'
      subst e''
      rw [hk] at hgg
      simp at hgg
      exact ht hgg.2.symm

/-- Is the block a row of bytes? -/
def isBytes : Obj → Bool
  | .cells _ t _ => t == 5
  | _ => false

/-- Below B all is as it was; so is every block that is no row of bytes, but for block hb. -/
structure Fr (B hb : Nat) (w w' : World) : Prop where
  bel : Below B w w'
  keep : ∀ k o, w.heap[k]? = some o → k ≠ hb → isBytes o = false → w'.heap[k]? = some o

theorem Fr.refl (B hb : Nat) (w : World) : Fr B hb w w := ⟨Below.refl _ _, fun _ _ h _ _ => h⟩
theorem Fr.trans {B hb : Nat} {a b c : World} (h : Fr B hb a b) (k : Fr B hb b c) : Fr B hb a c := ⟨h.bel.trans k.bel, fun j o hj hne ho => k.keep j o (h.keep j o hj hne ho) hne ho⟩
theorem Fr.of_below {B hb : Nat} {w w' : World} (hB : B ≤ w.heap.size) (h : Below w.heap.size w w') : Fr B hb w w' :=
  ⟨h.mono hB, fun k _ hk _ _ => (h.block k (Array.getElem?_eq_some_iff.1 hk).1).trans hk⟩
theorem Fr.alloc {B hb : Nat} {w : World} (hB : B ≤ w.heap.size) (o : Obj) : Fr B hb w (w.alloc o) := Fr.of_below hB ((Below.refl _ w).alloc (Nat.le_refl _) o)
theorem Fr.drew {B hb : Nat} {a w : World} (h : Fr B hb a w) : Fr B hb a w.drew := ⟨h.bel.drew, h.keep⟩
theorem Fr.setCell {B hb : Nat} {w : World} (hB : B ≤ hb) (o : Nat) (v : Value) : Fr B hb w (w.setCell ⟨hb, o, none⟩ v) :=
  ⟨(Below.refl _ w).setCell (p := ⟨hb, o, none⟩) hB v, fun k _ hk hne _ => (Below.heap_setCell w ⟨hb, o, none⟩ v k hne).trans hk⟩
theorem Fr.grown {B hb : Nat} {w w' : World} {v : Value} {n : Nat} {xs : List Value} (hg : w.grownBy w' v.ownBlock) (ho : w.ownsRow B 5 1 v n xs) (hB : B ≤ w.heap.size) : Fr B hb w w' := by
  refine ⟨(Below.refl _ w).grown hg hB (fun k hk => (ho.lt k hk).1), fun k o hk hne hb' => ?_⟩
  rw [hg.block k (Array.getElem?_eq_some_iff.1 hk).1, hk]
  rcases ho.2 with ⟨rfl, _⟩ | ⟨g, cap, cur, rfl, _, hgg, _⟩
  · simp [Value.ownBlock]
  · simp only [Value.ownBlock]
    intro e
    simp at e
    subst e
    rw [hk] at hgg
    simp at hgg
    subst hgg
    simp [isBytes] at hb'

/-- The middle states of Add: the hint's block holds sv and e0; v owns the bytes bs; the entry's block; the key's block. -/
structure AS (B hb E kg : Nat) (w wx : World) (eb : Array Value) (kb sv e0 v : Value) (n : Nat) (bs : List Value) : Prop where
  blk : wx.heap[hb]? = some (.cells #[sv, e0] 37 (0, 0))
  row : wx.ownsRow B 5 1 v n bs
  ent : wx.heap[E]? = some (.cells eb 45 (0, 0))
  key : wx.heap[kg]? = some (.cells #[kb] 5 (0, 0))
  fr : Fr B hb w wx
  lo : 2 ≤ n
  hB : B ≤ hb
  sz : B ≤ wx.heap.size

section
variable {B hb E kg : Nat} {w wx : World} {eb : Array Value} {kb sv e0 v : Value} {n : Nat} {bs : List Value}

theorem AS.drew (h : AS B hb E kg w wx eb kb sv e0 v n bs) : AS B hb E kg w wx.drew eb kb sv e0 v n bs := ⟨h.blk, h.row, h.ent, h.key, h.fr.drew, h.lo, h.hB, h.sz⟩
theorem AS.below (h : AS B hb E kg w wx eb kb sv e0 v n bs) {w' : World} (hb' : Below wx.heap.size wx w') : AS B hb E kg w w' eb kb sv e0 v n bs :=
  ⟨(hb'.block _ (Array.getElem?_eq_some_iff.1 h.blk).1).trans h.blk, h.row.kept (grown_below none hb') (by cases v.ownBlock <;> simp), (hb'.block _ (Array.getElem?_eq_some_iff.1 h.ent).1).trans h.ent,
    (hb'.block _ (Array.getElem?_eq_some_iff.1 h.key).1).trans h.key, h.fr.trans (Fr.of_below h.sz hb'), h.lo, h.hB, Nat.le_trans h.sz hb'.size⟩
theorem AS.alloc (h : AS B hb E kg w wx eb kb sv e0 v n bs) (o : Obj) : AS B hb E kg w (wx.alloc o) eb kb sv e0 v n bs := h.below ((Below.refl _ wx).alloc (Nat.le_refl _) o)
theorem AS.grow (h : AS B hb E kg w wx eb kb sv e0 v n bs) {w' : World} {v' : Value} {n' : Nat} {bs' : List Value} (hg : wx.grownBy w' v.ownBlock) (ho : w'.ownsRow B 5 1 v' n' bs') (hn : n ≤ n') : AS B hb E kg w w' eb kb sv e0 v' n' bs' := by
  have fr : Fr B hb wx w' := Fr.grown hg h.row h.sz
  have hlt := (Array.getElem?_eq_some_iff.1 h.blk).1
  refine ⟨?_, ho, fr.keep E _ h.ent ?_ rfl, ?_, h.fr.trans fr, Nat.le_trans h.lo hn, h.hB, Nat.le_trans h.sz hg.size⟩
  · rw [hg.block hb hlt, h.blk]
    rcases h.row.2 with ⟨rfl, _⟩ | ⟨g, cap, cur, rfl, _, hgg, _⟩
    · simp [Value.ownBlock]
    · simp only [Value.ownBlock]
      intro e
      simp at e
      subst e
      rw [h.blk] at hgg
      simp at hgg
  · intro e
    have h1 := h.ent
    rw [e, h.blk] at h1
    simp at h1
  · rw [hg.block kg (Array.getElem?_eq_some_iff.1 h.key).1, h.key]
    rcases h.row.2 with ⟨rfl, _⟩ | ⟨g, cap, cur, rfl, _, hgg, hc, _, hs, _⟩
    · simp [Value.ownBlock]
    · simp only [Value.ownBlock]
      intro e
      simp at e
      subst e
      rw [h.key] at hgg
      simp at hgg
      subst hgg
      have := h.lo
      simp at hs
      omega
theorem AS.store (h : AS B hb E kg w wx eb kb sv e0 v n bs) : AS B hb E kg w (wx.setCell ⟨hb, 0, none⟩ v) eb kb v e0 v n bs := by
  have hne : ∀ {k : Nat} {cs : Array Value} {t : TypeId}, wx.heap[k]? = some (.cells cs t (0, 0)) → t ≠ 37 → (wx.setCell ⟨hb, 0, none⟩ v).heap[k]? = some (.cells cs t (0, 0)) := by
    intro k cs t hk ht
    rw [Below.heap_setCell wx ⟨hb, 0, none⟩ v k ?_]
    · exact hk
    · intro e
      have e' : k = hb := e
      subst e'
      rw [h.blk] at hk
      simp at hk
      exact ht hk.2.symm
  refine ⟨set0 h.blk v, ?_, hne h.ent (by decide), hne h.key (by decide), h.fr.trans (Fr.setCell h.hB 0 v), h.lo, h.hB, by simpa [World.setCell] using h.sz⟩
  refine ⟨h.row.1, ?_⟩
  rcases h.row.2 with hn | ⟨g, cap, cur, rfl, hbg, hgg, rest⟩
  · exact .inl hn
  · exact .inr ⟨g, cap, cur, rfl, hbg, hne hgg (by decide), rest⟩
theorem AS.cell0 (h : AS B hb E kg w wx eb kb sv e0 v n bs) : wx.cell? ⟨hb, 0, none⟩ = some sv := by simp [World.cell?, h.blk]
theorem AS.cell1 (h : AS B hb E kg w wx eb kb sv e0 v n bs) : wx.cell? ⟨hb, 1, none⟩ = some e0 := by simp [World.cell?, h.blk]
theorem AS.free (h : AS B hb E kg w wx eb kb sv e0 v n bs) (o : Nat) : wx.frozen? ⟨hb, o, none⟩ = false := by simp [World.frozen?, h.blk]
theorem AS.cellE (h : AS B hb E kg w wx eb kb sv e0 v n bs) (o : Nat) : wx.cell? ⟨E, o, none⟩ = eb[o]? := by simp [World.cell?, h.ent]
theorem AS.cellK (h : AS B hb E kg w wx eb kb sv e0 v n bs) : wx.cell? ⟨kg, 0, none⟩ = some kb := by simp [World.cell?, h.key]
end

set_option maxHeartbeats 1000000 in
theorem flags0 (a b c : Value) (w : World) :
    Calls Yba.prog 27 #[.agg #[a, b, c, .bool false, .bool false, .bool false]] w fun e w' => e = .returned (.int .u8 0) ∧ Below w.heap.size w w' := by
  go_enter Yba.func27, Yba.ntmps27
  go_wp2
  go_ret
  exact ⟨rfl, (Below.refl _ _).alloc (Nat.le_refl _) _⟩

set_option maxHeartbeats 1000000 in
theorem endOf (hb : Nat) (y0 : Int) (w : World) (h : w.cell? ⟨hb, 1, none⟩ = some (.int .i64 y0)) :
    Calls Yba.prog 18 #[.pointer (some ⟨hb, 0, none⟩)] w fun e w' => e = .returned (.int .i64 y0) ∧ w' = w := by
  go_enter Yba.func18, Yba.ntmps18
  go_wp2
  go_ret
  exact ⟨rfl, rfl⟩

set_option maxHeartbeats 1000000 in
theorem newHint (w : World) :
    Calls Yba.prog 15 #[] w fun e w' => ∃ hb g c, e = .returned (.pointer (some ⟨hb, 0, none⟩)) ∧ w.heap.size ≤ hb ∧ w'.heap[hb]? = some (.cells #[.slice (some ⟨g, 0, none⟩) 12 c, .int .i64 24] 37 (0, 0)) ∧
      w'.ownsRow w.heap.size 5 1 (.slice (some ⟨g, 0, none⟩) 12 c) 12 (Lib.byteCells hdr) ∧ Below w.heap.size w w' := by
  go_enter Yba.func15, Yba.ntmps15
  go_wp2_with fail
  refine (fileHeader w).mono ?_
  rintro e w1 ⟨v, rfl, hown, hg⟩
  rcases hown.2 with ⟨_, h0⟩ | ⟨g, c, cur, rfl, r⟩
  · omega
  have hz : w.heap.size ≤ w1.heap.size := hg.size
  go_wp2
  go_ret
  exact ⟨_, g, c, rfl, hz, heap_alloc_new w1 _, hown.alloc _, (((Below.refl _ w).grown hg (Nat.le_refl _) (by simp)).alloc hz _)⟩

set_option maxHeartbeats 8000000 in
set_option maxRecDepth 100000 in
theorem add (B hb kg g n c sz : Nat) (L : List UInt8) (kb : UInt8) (e0 : Int) (w : World)
    (hblk : w.heap[hb]? = some (.cells #[.slice (some ⟨g, 0, none⟩) n c, .int .i64 e0] 37 (0, 0))) (hown : w.ownsRow B 5 1 (.slice (some ⟨g, 0, none⟩) n c) n (Lib.byteCells L)) (hkey : w.heap[kg]? = some (.cells #[.int .u8 kb.toNat] 5 (0, 0)))
    (hn2 : 2 ≤ n) (hn : n ≤ 1000000) (hB : B ≤ hb) (hBz : B ≤ w.heap.size) (hsz : sz < 65536) (he : 0 ≤ e0) (he2 : e0 ≤ 1000000000000) :
    Calls Yba.prog 16 #[.pointer (some ⟨hb, 0, none⟩), .agg #[.int .i64 0, .int .i64 sz, .slice (some ⟨kg, 0, none⟩) 1 1, .bool false, .bool false, .bool false]] w fun e w' => e = .returned (.tuple #[]) ∧
      ∃ g' c', w'.heap[hb]? = some (.cells #[.slice (some ⟨g', 0, none⟩) (n + 8) c', .int .i64 (e0 + sz)] 37 (0, 0)) ∧ w'.ownsRow B 5 1 (.slice (some ⟨g', 0, none⟩) (n + 8) c') (n + 8) (Lib.byteCells (L ++ enc ⟨0, [kb], sz⟩)) ∧ Fr B hb w w' := by
  have hlt : hb < w.heap.size := (Array.getElem?_eq_some_iff.1 hblk).1
  have s0 : AS B hb w.heap.size kg w (w.alloc (.cells #[.int .i64 0, .int .i64 sz, .slice (some ⟨kg, 0, none⟩) 1 1, .bool false, .bool false, .bool false] 45))
      #[.int .i64 0, .int .i64 sz, .slice (some ⟨kg, 0, none⟩) 1 1, .bool false, .bool false, .bool false] (.int .u8 kb.toNat) (.slice (some ⟨g, 0, none⟩) n c) (.int .i64 e0) (.slice (some ⟨g, 0, none⟩) n c) n (Lib.byteCells L) :=
    ⟨(Below.heap_alloc w _ hb hlt).trans hblk, hown.alloc _, heap_alloc_new w _, (Below.heap_alloc w _ kg (Array.getElem?_eq_some_iff.1 hkey).1).trans hkey, Fr.alloc hBz _, hn2, hB, by simp; omega⟩
  clear hblk hown hkey
  have hwr : IntKind.u32.wrap (sz : Int) = (sz : Int) := u32_wrap_id _ (by omega) (by omega)
  have hwa : IntKind.i64.wrap (e0 + (sz : Int)) = e0 + (sz : Int) := IntWalk.i64_in _ (by omega)
  obtain ⟨i5, hi5, hz50, hz51, hz52⟩ := info_parts info5
  go_enter Yba.func16, Yba.ntmps16
  go_upto_region 1 with fail
  generalize w.alloc (.cells #[.int .i64 0, .int .i64 sz, .slice (some ⟨kg, 0, none⟩) 1 1, .bool false, .bool false, .bool false] 45) = W0 at *
  go_cut [] (fun wx => ∃ g1 c1, AS B hb w.heap.size kg w wx #[.int .i64 0, .int .i64 sz, .slice (some ⟨kg, 0, none⟩) 1 1, .bool false, .bool false, .bool false] (.int .u8 kb.toNat) (.slice (some ⟨g1, 0, none⟩) (n + 1) c1) (.int .i64 e0) (.slice (some ⟨g1, 0, none⟩) (n + 1) c1) (n + 1) (Lib.byteCells L ++ [.int .u8 0]))
  case first =>
    have c0 := s0.cell0
    have f0 := s0.free
    have ce0 : W0.cell? ⟨w.heap.size, 0, none⟩ = _ := s0.cellE 0
    have ce1 : W0.cell? ⟨w.heap.size, 1, none⟩ = _ := s0.cellE 1
    have ce2 : W0.cell? ⟨w.heap.size, 2, none⟩ = _ := s0.cellE 2
    have ce3 : W0.cell? ⟨w.heap.size, 3, none⟩ = _ := s0.cellE 3
    have ce4 : W0.cell? ⟨w.heap.size, 4, none⟩ = _ := s0.cellE 4
    have ce5 : W0.cell? ⟨w.heap.size, 5, none⟩ = _ := s0.cellE 5
    go_region_law (first | (refine step_append_lies _ rfl (.tmp 8) (.tmp 11) 23 rfl B 5 i5 (.int .u8 0) 1 1 Yba.underlying23 hi5 hz50 hz51 hz52 rfl (by decide) _ _ _ rfl (s1.alloc (.cells #[.int .u8 0] 5)).row _ 1 1 [.int .u8 0] rfl rfl (newI _ _ _) (oneI _ _) (by decide) (by unfold maxLen; omega) (by omega) (s1.alloc (.cells #[.int .u8 0] 5)).sz _ rfl ?_; intro g2 c2 w2 ho2 hg2 ha2 hl2; have s2 := (s1.alloc (.cells #[.int .u8 0] 5)).grow hg2 ho2 (by omega); have c2' := s2.cell0; have f2' := s2.free) | (go_simp; go_at_call 27; refine (flags0 _ _ _ _).mono ?_; rintro e w1 ⟨rfl, hb1⟩; have s1 := s0.drew.below hb1; have c1 := s1.cell0; have f1 := s1.free; have c1a := fun o => (s1.alloc o).cell0))
    all_goals (go_wp2_with fail; go_meet; exact ⟨_, _, s2.store⟩)
  case rest =>
    obtain ⟨g1, c1, s1⟩ := hcut
    clear s0
    go_upto_region 2 with fail
    go_cut [] (fun wx => ∃ g1 c1, AS B hb w.heap.size kg w wx #[.int .i64 0, .int .i64 sz, .slice (some ⟨kg, 0, none⟩) 1 1, .bool false, .bool false, .bool false] (.int .u8 kb.toNat) (.slice (some ⟨g1, 0, none⟩) (n + 1 + 2) c1) (.int .i64 e0) (.slice (some ⟨g1, 0, none⟩) (n + 1 + 2) c1) (n + 1 + 2) (Lib.byteCells L ++ [.int .u8 0] ++ Lib.byteCells (Lib.leBytes 2 1)))
    case first =>
      have c0 := s1.cell0
      have f0 := s1.free
      have ce2 : wc.cell? ⟨w.heap.size, 2, none⟩ = _ := s1.cellE 2
      go_region_with (go_at_call 10; refine (appendU16 B _ 1 (by omega) _ _ _ s1.drew.row s1.drew.sz (by omega)).mono ?_; rintro e w2 ⟨v2, rfl, ho2, hg2⟩; have s2 := s1.drew.grow hg2 ho2 (by omega); obtain ⟨g2, c2, rfl⟩ := shape ho2 (by omega); have c2' := s2.cell0; have f2' := s2.free)
      all_goals (go_wp2_with fail; go_meet; exact ⟨_, _, s2.store⟩)
    case rest =>
      obtain ⟨g2, c2, s2⟩ := hcut
      clear s1
      go_upto_region 3 with fail
      go_cut [] (fun wx => ∃ g1 c1, AS B hb w.heap.size kg w wx #[.int .i64 0, .int .i64 sz, .slice (some ⟨kg, 0, none⟩) 1 1, .bool false, .bool false, .bool false] (.int .u8 kb.toNat) (.slice (some ⟨g1, 0, none⟩) (n + 1 + 2 + 4) c1) (.int .i64 e0) (.slice (some ⟨g1, 0, none⟩) (n + 1 + 2 + 4) c1) (n + 1 + 2 + 4) (Lib.byteCells L ++ [.int .u8 0] ++ Lib.byteCells (Lib.leBytes 2 1) ++ Lib.byteCells (Lib.leBytes 4 sz)))
      case first =>
        have c0 := s2.cell0
        have f0 := s2.free
        have ce1 : wc.cell? ⟨w.heap.size, 1, none⟩ = _ := s2.cellE 1
        go_region_with (go_at_call 11; refine (appendU32 B _ sz (by omega) _ _ _ s2.drew.row s2.drew.sz (by omega)).mono ?_; rintro e w3 ⟨v3, rfl, ho3, hg3⟩; have s3 := s2.drew.grow hg3 ho3 (by omega); obtain ⟨g3, c3, rfl⟩ := shape ho3 (by omega); have c3' := s3.cell0; have f3' := s3.free)
        all_goals (go_wp2_with fail; go_meet; exact ⟨_, _, s3.store⟩)
      case rest =>
        obtain ⟨g3, c3, s3⟩ := hcut
        clear s2
        go_upto_region 4 with fail
        go_cut [] (fun wx => ∃ g1 c1, AS B hb w.heap.size kg w wx #[.int .i64 0, .int .i64 sz, .slice (some ⟨kg, 0, none⟩) 1 1, .bool false, .bool false, .bool false] (.int .u8 kb.toNat) (.slice (some ⟨g1, 0, none⟩) (n + 1 + 2 + 4 + 1) c1) (.int .i64 e0) (.slice (some ⟨g1, 0, none⟩) (n + 1 + 2 + 4 + 1) c1) (n + 1 + 2 + 4 + 1) (Lib.byteCells L ++ [.int .u8 0] ++ Lib.byteCells (Lib.leBytes 2 1) ++ Lib.byteCells (Lib.leBytes 4 sz) ++ [.int .u8 kb.toNat]))
        case first =>
          have c0 := s3.cell0
          have f0 := s3.free
          have ce2 : wc.cell? ⟨w.heap.size, 2, none⟩ = _ := s3.cellE 2
          have ck := s3.cellK
          go_region_law (first | (refine step_append_lies _ rfl (.tmp 44) (.tmp 46) 23 rfl B 5 i5 (.int .u8 0) 1 1 Yba.underlying23 hi5 hz50 hz51 hz52 rfl (by decide) _ _ _ rfl s3.drew.row ⟨kg, 0, none⟩ 1 1 [.int .u8 kb.toNat] rfl rfl (newK ck) (oneI _ _) (by decide) (by unfold maxLen; omega) (by omega) s3.drew.sz _ rfl ?_; intro g4 c4 w4 ho4 hg4 ha4 hl4; have s4 := s3.drew.grow hg4 ho4 (by omega); have c4' := s4.cell0; have f4' := s4.free))
          all_goals (go_wp2_with fail; go_meet; exact ⟨_, _, s4.store⟩)
        case rest =>
          obtain ⟨g4, c4, s4⟩ := hcut
          clear s3
          have c0 := s4.cell0
          have f0 := s4.free
          have ce1 : wc.cell? ⟨w.heap.size, 1, none⟩ = _ := s4.cellE 1
          have c1' := s4.cell1
          go_wp2_with fail
          go_region
          all_goals
            go_wp2
            go_end0
            refine ⟨rfl, g4, c4, ?_, ?_, ?_⟩
            · exact set1 s4.blk _
            · rw [bytes_entry] 
              exact ownsRow_other s4.drew.row s4.blk (by decide) _ _
            · exact s4.fr.drew.trans (Fr.setCell hB 1 _)
end Go.Proofs.Ybulkcmey.Rec
