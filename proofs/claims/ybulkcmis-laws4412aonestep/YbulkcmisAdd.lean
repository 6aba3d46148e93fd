/-
  v2Writer.add at this program.
-/
import Derived.Test.YbulkcmisWriter
import Derived.Deep.RegionHeld3
namespace Go.Proofs.Ybulkcmis.Bytes
open Go Go.RowKit Go.Proofs.Ybulkcmis.Mem

/-- Where the open chunk begins behind an add. -/
def atOf (fresh : Bool) (L : List UInt8) (at0 : Nat) : Nat := if fresh then L.length else at0
/-- The bytes once the chunk's head is open. -/
def openOf (fresh : Bool) (L : List UInt8) : List UInt8 := if fresh then L ++ [0, 0, 0, 0, 0] else L
/-- .. and the description appended. -/
def laidOf (fresh : Bool) (L : List UInt8) (l : Int) (hod sec : List UInt8) : List UInt8 := openOf fresh L ++ Lib.beBytes 4 (low32 l) ++ hod ++ sec
/-- The chunk's length written anew. -/
def putOf (L : List UInt8) (at1 : Nat) : List UInt8 := L.take (at1 + 1) ++ Lib.beBytes 4 (low32 ((L.length : Int) - (at1 : Int) - 5)) ++ L.drop (at1 + 1 + 4)

theorem putOf_length (L : List UInt8) (at1 : Nat) (h : at1 + 5 ≤ L.length) : (putOf L at1).length = L.length := by
  simp [putOf, Lib.beBytes_length]; omega
theorem laidOf_length (fresh : Bool) (L : List UInt8) (l : Int) (hod sec : List UInt8) : (laidOf fresh L l hod sec).length = (openOf fresh L).length + 4 + hod.length + sec.length := by
  simp [laidOf, Lib.beBytes_length]; omega
theorem open_at {fresh : Bool} {L : List UInt8} {at0 : Nat} (h : fresh = false → at0 + 5 ≤ L.length) : atOf fresh L at0 + 5 ≤ (openOf fresh L).length := by
  cases fresh with
  | true => simp [atOf, openOf]
  | false => simpa [atOf, openOf] using h rfl

theorem new5 (w : World) (t : TypeId) (H : Nat) (hH : w.heap.size = H) : ∀ j u, [Value.int .u8 0, .int .u8 0, .int .u8 0, .int .u8 0, .int .u8 0][j]? = some u → (w.alloc (.cells #[.int .u8 0, .int .u8 0, .int .u8 0, .int .u8 0, .int .u8 0] t)).cell? ((⟨H, 0, none⟩ : Addr).add j) = some u := by
  subst hH
  intro j u hj
  match j, hj with
  | 0, hj => simp at hj; subst hj; simp [Addr.add]
  | 1, hj => simp at hj; subst hj; simp [Addr.add]
  | 2, hj => simp at hj; subst hj; simp [Addr.add]
  | 3, hj => simp at hj; subst hj; simp [Addr.add]
  | 4, hj => simp at hj; subst hj; simp [Addr.add]
theorem one5 : ∀ u ∈ [Value.int .u8 0, .int .u8 0, .int .u8 0, .int .u8 0, .int .u8 0], u.oneCell' = true := by
  intro u hu; simp at hu; subst hu; rfl

set_option maxHeartbeats 8000000 in
set_option maxRecDepth 100000 in
theorem writerAdd (B hb sb : Nat) (w : World) (code : Value) (L : List UInt8) (g c at0 : Nat) (cnt st ls en o l : Int) (s2 s5 s6 : Value) (ha sa : Option Addr) (hm hc sm sc : Nat) (hod sec : List UInt8) (fresh : Bool)
    (hfresh : ((cnt % 63161283) == 0) = fresh) (hc0 : 0 ≤ cnt) (hc1 : cnt ≤ 1000000000)
    (h : AS B hb sb w w #[code, .slice (some ⟨g, 0, none⟩) L.length c, .int .i64 at0, .int .i64 cnt, .int .i64 st, .int .i64 ls, .int .i64 en] #[.int .i64 o, .int .i64 l, s2, .slice ha hm hc, .slice sa sm sc, s5, s6] (.slice (some ⟨g, 0, none⟩) L.length c) L.length (Lib.byteCells L))
    (hat : fresh = false → at0 + 5 ≤ L.length) (hlim : L.length + 5 + 4 + hm + sm ≤ 1000000000)
    (hh : BytesAt w ha hm hod) (hs : BytesAt w sa sm sec) (hhc : ha = none → hc = 0) (hsc : sa = none → sc = 0) (hhl : ∀ ad, ha = some ad → 0 < hm → ad.block < B) (hsl : ∀ ad, sa = some ad → 0 < sm → ad.block < B) :
    Calls Yba.prog 5 #[.pointer (some ⟨hb, 0, none⟩), .pointer (some ⟨sb, 0, none⟩)] w fun e w' => e = .returned (.tuple #[]) ∧ ∃ g' c',
      AS B hb sb w w' #[code, .slice (some ⟨g', 0, none⟩) (laidOf fresh L l hod sec).length c', .int .i64 (atOf fresh L at0 : Nat), .int .i64 (cnt + 1), .int .i64 (startOf cnt o st), .int .i64 o, .int .i64 (wrap64 (o + l))]
        #[.int .i64 o, .int .i64 l, s2, .slice ha hm hc, .slice sa sm sc, s5, s6] (.slice (some ⟨g', 0, none⟩) (laidOf fresh L l hod sec).length c') (laidOf fresh L l hod sec).length (Lib.byteCells (putOf (laidOf fresh L l hod sec) (atOf fresh L at0))) := by
  obtain ⟨i5, hi5, hz50, hz51, hz52⟩ := info_parts info5
  have hl1 := low32_lt l
  have hw1 := low32_mod l
  have hw2 := low32_wrap l
  have hLL : Hid (∀ f, laidOf f L l hod sec = openOf f L ++ Lib.beBytes 4 (low32 l) ++ hod ++ sec) := fun _ => rfl
  generalize low32 l = lv at *
  have s0 := h.alloc (.cells #[] 46)
  have hoa := open_at hat
  have hol : (openOf fresh L).length ≤ L.length + 5 := by cases fresh <;> simp [openOf]
  have hos : (openOf fresh L).length = (openOf fresh L).length := rfl
  clear h
  go_enter Yba.func5, Yba.ntmps5
  go_upto_region 1 with fail
  generalize w.alloc (.cells #[] 46) = W0 at *
  have a3 : W0.cell? ⟨hb, 3, none⟩ = _ := s0.cell 3
  go_upto_if 12 with fail
  go_cut [] (fun wx => ∃ g1 c1, AS B hb sb w wx #[code, .slice (some ⟨g1, 0, none⟩) (openOf fresh L).length c1, .int .i64 (atOf fresh L at0 : Nat), .int .i64 cnt, .int .i64 st, .int .i64 ls, .int .i64 en] #[.int .i64 o, .int .i64 l, s2, .slice ha hm hc, .slice sa sm sc, s5, s6] (.slice (some ⟨g1, 0, none⟩) (openOf fresh L).length c1) (openOf fresh L).length (Lib.byteCells (openOf fresh L)))
  case first =>
    clear hLL hw1 hw2 hh hs
    cases fresh with
    | false =>
      go_wp2_with fail
      go_meet
      exact ⟨g, c, by simpa [openOf, atOf] using s0⟩
    | true =>
      have a1 : W0.cell? ⟨hb, 1, none⟩ = _ := s0.cell 1
      have fz := s0.free
      have s1 := s0.store 2 (.int .i64 (L.length : Nat))
      have s1a := s1.alloc (.cells #[.int .u8 0, .int .u8 0, .int .u8 0, .int .u8 0, .int .u8 0] 5)
      have a2 : W0.cell? ⟨hb, 2, none⟩ = _ := s0.cell 2
      go_wp2_with (at_builtin; refine wpList_append_own _ rfl (.tmp 25) (.tmp 26) 23 rfl B 5 i5 (.int .u8 0) 1 1 Yba.underlying23 hi5 hz50 hz51 hz52 rfl (by decide) _ _ _ rfl s1a.row _ 5 5 [.int .u8 0, .int .u8 0, .int .u8 0, .int .u8 0, .int .u8 0] rfl rfl (new5 _ _ _ (by simp [World.setCell])) one5 ?d1 ?d2 s1a.sz ?_)
      case d1 => unfold maxLen; omega
      case d2 => omega
      intro v2 w2 ho2 hg2 _
      have s2' := s1a.grow hg2 ho2
      obtain ⟨g2, c2, rfl⟩ := Mem.shape ho2 (by omega)
      clear s1a s1 ho2 hg2
      have f2 := s2'.free
      have b1 : w2.cell? ⟨hb, 1, none⟩ = _ := s2'.cell 1
      go_wp2_with fail
      go_meet
      have s3 := s2'.store 1 (.slice (some ⟨g2, 0, none⟩) (L.length + 5) c2)
      exact ⟨g2, c2, by simpa [openOf, atOf, Lib.byteCells] using s3⟩
  case rest =>
    obtain ⟨g1, c1, s1⟩ := hcut
    clear s0 a3 hfresh
    go_upto_region 4 with fail
    go_cut [] (fun wx => ∃ g1 c1, AS B hb sb w wx #[code, .slice (some ⟨g1, 0, none⟩) ((openOf fresh L).length + 4) c1, .int .i64 (atOf fresh L at0 : Nat), .int .i64 cnt, .int .i64 st, .int .i64 ls, .int .i64 en] #[.int .i64 o, .int .i64 l, s2, .slice ha hm hc, .slice sa sm sc, s5, s6] (.slice (some ⟨g1, 0, none⟩) ((openOf fresh L).length + 4) c1) ((openOf fresh L).length + 4) (Lib.byteCells (openOf fresh L) ++ Lib.byteCells (Lib.beBytes 4 lv)))
    case first =>
      have a1 : wc.cell? ⟨hb, 1, none⟩ = _ := s1.cell 1
      have b1 : wc.cell? ⟨sb, 1, none⟩ = _ := s1.cellS 1
      have fz := s1.free
      clear hLL hh hs
      go_region_with (go_at_call 9; refine (appendU32 B _ lv hl1 _ _ _ s1.drew.row s1.drew.sz (by omega)).mono ?_; rintro e w2 ⟨v2, rfl, ho2, hg2⟩; have s2' := s1.drew.grow hg2 ho2; obtain ⟨g2, c2, rfl⟩ := Mem.shape ho2 (by omega); have c2' : w2.cell? ⟨hb, 1, none⟩ = _ := s2'.cell 1; have f2' := s2'.free)
      all_goals (go_wp2_with fail; go_meet; exact ⟨_, _, by simpa using s2'.store 1 (.slice (some ⟨g2, 0, none⟩) ((openOf fresh L).length + 4) c2)⟩)
    case rest =>
      obtain ⟨g2, c2, s2'⟩ := hcut
      clear s1
      go_upto_region 5 with fail
      go_cut [] (fun wx => ∃ g1 c1, AS B hb sb w wx #[code, .slice (some ⟨g1, 0, none⟩) ((openOf fresh L).length + 4 + hm) c1, .int .i64 (atOf fresh L at0 : Nat), .int .i64 cnt, .int .i64 st, .int .i64 ls, .int .i64 en] #[.int .i64 o, .int .i64 l, s2, .slice ha hm hc, .slice sa sm sc, s5, s6] (.slice (some ⟨g1, 0, none⟩) ((openOf fresh L).length + 4 + hm) c1) ((openOf fresh L).length + 4 + hm) (Lib.byteCells (openOf fresh L) ++ Lib.byteCells (Lib.beBytes 4 lv) ++ Lib.byteCells hod))
      case first =>
        have a1 : wc.cell? ⟨hb, 1, none⟩ = _ := s2'.cell 1
        have b1 : wc.cell? ⟨sb, 3, none⟩ = _ := s2'.cellS 3
        have fz := s2'.free
        have hh1 : BytesAt wc.drew ha hm hod := hh.below' (Below.refl B w) hhl s2'.drew.fr.bel
        clear hLL hh hs
        go_region_law (refine step_append_src _ rfl (.tmp 48) (.tmp 52) 23 rfl B i5 Yba.underlying23 hi5 hz50 hz51 hz52 _ _ _ rfl s2'.drew.row ha hm hc hod rfl hh1 hhc (by omega) s2'.drew.sz ?_; intro v3 w3 ho3 hg3; have s3' := s2'.drew.grow hg3 ho3; obtain ⟨g3, c3, rfl⟩ := Mem.shape ho3 (by omega); have c3' : w3.cell? ⟨hb, 1, none⟩ = _ := s3'.cell 1; have f3' := s3'.free)
        all_goals (go_wp2_with fail; go_meet; exact ⟨_, _, by simpa using s3'.store 1 (.slice (some ⟨g3, 0, none⟩) ((openOf fresh L).length + 4 + hm) c3)⟩)
      case rest =>
        obtain ⟨g3, c3, s3'⟩ := hcut
        clear s2'
        go_upto_region 6 with fail
        go_cut [] (fun wx => ∃ g1 c1, AS B hb sb w wx #[code, .slice (some ⟨g1, 0, none⟩) ((openOf fresh L).length + 4 + hm + sm) c1, .int .i64 (atOf fresh L at0 : Nat), .int .i64 cnt, .int .i64 st, .int .i64 ls, .int .i64 en] #[.int .i64 o, .int .i64 l, s2, .slice ha hm hc, .slice sa sm sc, s5, s6] (.slice (some ⟨g1, 0, none⟩) ((openOf fresh L).length + 4 + hm + sm) c1) ((openOf fresh L).length + 4 + hm + sm) (Lib.byteCells (openOf fresh L) ++ Lib.byteCells (Lib.beBytes 4 lv) ++ Lib.byteCells hod ++ Lib.byteCells sec))
        case first =>
          have a1 : wc.cell? ⟨hb, 1, none⟩ = _ := s3'.cell 1
          have b1 : wc.cell? ⟨sb, 4, none⟩ = _ := s3'.cellS 4
          have fz := s3'.free
          have hs1 : BytesAt wc.drew sa sm sec := hs.below' (Below.refl B w) hsl s3'.drew.fr.bel
          clear hLL hh hs
          go_region_law (refine step_append_src _ rfl (.tmp 60) (.tmp 64) 23 rfl B i5 Yba.underlying23 hi5 hz50 hz51 hz52 _ _ _ rfl s3'.drew.row sa sm sc sec rfl hs1 hsc (by omega) s3'.drew.sz ?_; intro v4 w4 ho4 hg4; have s4' := s3'.drew.grow hg4 ho4; obtain ⟨g4, c4, rfl⟩ := Mem.shape ho4 (by omega); have c4' : w4.cell? ⟨hb, 1, none⟩ = _ := s4'.cell 1; have f4' := s4'.free)
          all_goals (go_wp2_with fail; go_meet; exact ⟨_, _, by simpa using s4'.store 1 (.slice (some ⟨g4, 0, none⟩) ((openOf fresh L).length + 4 + hm + sm) c4)⟩)
        case rest =>
          obtain ⟨g4, c4, s4'⟩ := hcut
          clear s3'
          have hlm := hh.1
          have hls := hs.1
          have hLb : Lib.byteCells (openOf fresh L) ++ Lib.byteCells (Lib.beBytes 4 lv) ++ Lib.byteCells hod ++ Lib.byteCells sec = Lib.byteCells (laidOf fresh L l hod sec) := by rw [hLL.out]; simp [Lib.byteCells]
          have hNb : (openOf fresh L).length + 4 + hm + sm = (laidOf fresh L l hod sec).length := by rw [hLL.out]; simp [Lib.beBytes_length]; omega
          rw [hLb, hNb] at s4'
          have hN1 : (laidOf fresh L l hod sec).length ≤ 1000000000 := by omega
          have hNA : atOf fresh L at0 + 9 ≤ (laidOf fresh L l hod sec).length := by omega
          clear hLb hNb hLL hh hs hw1 hw2 hol hos hoa hat hlim hl1
          generalize hLg : laidOf fresh L l hod sec = Lb at *
          generalize hAg : atOf fresh L at0 = A at *
          have HLG : Hid (laidOf fresh L l hod sec = Lb) := hLg
          have HAG : Hid (atOf fresh L at0 = A) := hAg
          clear hLg hAg
          obtain ⟨N, hN⟩ : ∃ N, N = Lb.length := ⟨_, rfl⟩
          have HN : Hid (N = Lb.length) := hN
          rw [← hN] at s4' hN1 hNA
          clear hN
          have hlv2 := low32_lt ((N : Int) - (A : Int) - 5)
          have hv3 := low32_wrap ((N : Int) - (A : Int) - 5)
          have HV : Hid (low32 ((N : Int) - (A : Int) - 5) = low32 ((N : Int) - (A : Int) - 5)) := rfl
          have hcap : N ≤ c4 ∧ c4 ≤ 9223372036854775807 := by
            rcases s4'.row.2 with ⟨h, _⟩ | ⟨_, _, _, h, _, _, h1, h2, _⟩
            · simp at h
            · simp at h; unfold maxLen at h2; omega
          have x1 : IntKind.i64.wrap ((A : Int) + 1) = (A : Int) + 1 := IntWalk.i64_in _ (by omega)
          have x2 : ((A : Int) + 1).toNat = A + 1 := by omega
          have x3 : (0 : Int) ≤ (A : Int) + 1 ∧ (A : Int) + 1 ≤ (N : Int) := by omega
          have x4 : ¬ c4 = A + 1 := by omega
          have x5 : IntKind.i64.wrap ((N : Int) - (A : Int)) = (N : Int) - (A : Int) := IntWalk.i64_in _ (by omega)
          have x6 : IntKind.i64.wrap ((N : Int) - (A : Int) - 5) = (N : Int) - (A : Int) - 5 := IntWalk.i64_in _ (by omega)
          have a1 : wc.cell? ⟨hb, 1, none⟩ = _ := s4'.cell 1
          have a2 : wc.cell? ⟨hb, 2, none⟩ = _ := s4'.cell 2
          go_upto_region 7 with fail
          go_cut [] (fun wx => AS B hb sb w wx #[code, .slice (some ⟨g4, 0, none⟩) N c4, .int .i64 (A : Nat), .int .i64 cnt, .int .i64 st, .int .i64 ls, .int .i64 en] #[.int .i64 o, .int .i64 l, s2, .slice ha hm hc, .slice sa sm sc, s5, s6] (.slice (some ⟨g4, 0, none⟩) N c4) N (Lib.byteCells (putOf Lb A)))
          case first =>
            go_region_held3 (fun w' => w'.cell? ⟨hb, 1, none⟩ = some (.slice (some ⟨g4, 0, none⟩) N c4) ∧ w'.cell? ⟨hb, 2, none⟩ = some (.int .i64 (A : Nat))) (first | exact ⟨s4'.drew.cell 1, s4'.drew.cell 2⟩ | exact ⟨s5'.cell 1, s5'.cell 2⟩) (first | (go_at_call 10; refine (putU32 B g4 (A + 1) N c4 _ hlv2 Lb _ s4'.drew.row (by omega)).mono ?_; rintro e w5 ⟨rfl, ho5, hg5⟩; have s5' := s4'.drew.grow hg5 ho5))
            all_goals
              go_wp2_with fail
              go_meet
              unfold putOf
              rw [← HN.out]
              exact s5'
          case rest =>
            have s5' := hcut
            clear s4' a1 a2 x1 x2 x3 x4 x5 x6 hv3
            go_wp2_with fail
            refine (laidAdd B hb sb w wc _ _ _ cnt st ls en o l _ _ _ _ _ _ _ _ s5' hc0 hc1).mono ?_
            rintro e w6 ⟨rfl, s6'⟩
            go_wp2
            go_end0
            refine ⟨rfl, g4, c4, ?_⟩
            have hf := s6'
            rw [HN.out] at hf
            rw [HLG.out, HAG.out]
            exact hf
end Go.Proofs.Ybulkcmis.Bytes
