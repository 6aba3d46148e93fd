/-
  Contracts of the byte functions at this program.
-/
import Derived.Test.YbulkcmisProg
import Derived.Test.YbulkcmisMem
import Derived.Lib.EndianBits
import Derived.Lib.Walk
import Derived.Deep.Draws
import Derived.Deep.LoopGhost
import Derived.Deep.QuietTactic
import Derived.BigQuiet
import Derived.IntWalk
namespace Go.Proofs.Ybulkcmis.Bytes
open Go Go.RowKit Go.Proofs.Ybulkcmis.Mem

theorem info5 : (Yba.prog.info? 5).map (fun i => (i.zero, i.size, i.bytes)) = some (some (.int .u8 0), 1, 1) := by kernel_rfl

theorem be4 (v : Nat) (hv : v < 4294967296) : Lib.byteCells (Lib.beBytes 4 v) = [Value.int .u8 ((v : Int) / 16777216), Value.int .u8 ((v : Int) / 65536 % 256), Value.int .u8 ((v : Int) / 256 % 256), Value.int .u8 ((v : Int) % 256)] := by
  have e0 : ((v % 256 : Nat) : Int) = (v : Int) % 256 := by omega
  have e1 : ((v / 256 % 256 : Nat) : Int) = (v : Int) / 256 % 256 := by omega
  have e2 : ((v / 256 / 256 % 256 : Nat) : Int) = (v : Int) / 65536 % 256 := by omega
  have e3 : ((v / 256 / 256 / 256 % 256 : Nat) : Int) = (v : Int) / 16777216 := by omega
  simp only [Lib.byteCells, Lib.beBytes, Lib.leBytes, List.reverse_cons, List.reverse_nil, List.nil_append, List.cons_append, List.map, Lib.toUInt8_mod, e0, e1, e2, e3]

set_option maxHeartbeats 4000000 in
set_option maxRecDepth 100000 in
theorem put32 (B n v : Nat) (hv : v < 4294967296) (sv : Value) (xs : List Value) (w : World) (hown : w.ownsRow B 5 1 sv n xs) (hBw : B ≤ w.heap.size) (hlim : n + 4 ≤ 140737488355328) :
    Calls Yba.prog 7 #[sv, .int .u32 v] w fun e w' => ∃ v', e = .returned v' ∧ w'.ownsRow B 5 1 v' (n + 4) (xs ++ Lib.byteCells (Lib.beBytes 4 v)) ∧ w.grownBy w' sv.ownBlock := by
  obtain ⟨i0, hi, hz0, hz1, hz2⟩ := info_parts info5
  have hb := be4 v hv
  go_enter Yba.func7, Yba.ntmps7
  go_wp2_with (at_builtin; refine wpList_append_own _ rfl _ _ 23 rfl B 5 i0 (.int .u8 0) 1 1 Yba.underlying23 hi hz0 hz1 hz2 rfl (by decide) _ _ _ rfl (hown.alloc _) _ 4 4 [Value.int .u8 ((v : Int) / 16777216), Value.int .u8 ((v : Int) / 65536 % 256), Value.int .u8 ((v : Int) / 256 % 256), Value.int .u8 ((v : Int) % 256)] rfl rfl ?c1 ?c2 ?c3 ?c4 ?c5 ?_)
  case c1 =>
    intro j u hj
    match j, hj with
    | 0, hj => simp at hj; subst hj; simp [Addr.add]
    | 1, hj => simp at hj; subst hj; simp [Addr.add]
    | 2, hj => simp at hj; subst hj; simp [Addr.add]
    | 3, hj => simp at hj; subst hj; simp [Addr.add]
  case c2 => intro u hu; simp at hu; rcases hu with rfl | rfl | rfl | rfl <;> rfl
  case c3 => unfold maxLen; omega
  case c4 => omega
  case c5 => simp; omega
  intro v' w2 hown' hgrow _
  go_wp2
  go_ret
  refine ⟨v', rfl, by rw [hb]; exact hown', ?_⟩
  exact grown_trans (World.grownBy_alloc _ _ _) hgrow

set_option maxHeartbeats 4000000 in
set_option maxRecDepth 100000 in
theorem appendU32 (B n v : Nat) (hv : v < 4294967296) (sv : Value) (xs : List Value) (w : World) (hown : w.ownsRow B 5 1 sv n xs) (hBw : B ≤ w.heap.size) (hlim : n + 4 ≤ 140737488355328) :
    Calls Yba.prog 9 #[.agg #[], sv, .int .u32 v] w fun e w' => ∃ v', e = .returned v' ∧ w'.ownsRow B 5 1 v' (n + 4) (xs ++ Lib.byteCells (Lib.beBytes 4 v)) ∧ w.grownBy w' sv.ownBlock := by
  obtain ⟨i0, hi, hz0, hz1, hz2⟩ := info_parts info5
  have hb := be4 v hv
  go_enter Yba.func9, Yba.ntmps9
  go_wp2_with (at_builtin; refine wpList_append_own _ rfl _ _ 23 rfl B 5 i0 (.int .u8 0) 1 1 Yba.underlying23 hi hz0 hz1 hz2 rfl (by decide) _ _ _ rfl ((hown.alloc _).alloc _) _ 4 4 [Value.int .u8 ((v : Int) / 16777216), Value.int .u8 ((v : Int) / 65536 % 256), Value.int .u8 ((v : Int) / 256 % 256), Value.int .u8 ((v : Int) % 256)] rfl rfl ?c1 ?c2 ?c3 ?c4 ?c5 ?_)
  case c1 =>
    intro j u hj
    match j, hj with
    | 0, hj => simp at hj; subst hj; simp [Addr.add]
    | 1, hj => simp at hj; subst hj; simp [Addr.add]
    | 2, hj => simp at hj; subst hj; simp [Addr.add]
    | 3, hj => simp at hj; subst hj; simp [Addr.add]
  case c2 => intro u hu; simp at hu; rcases hu with rfl | rfl | rfl | rfl <;> rfl
  case c3 => unfold maxLen; omega
  case c4 => omega
  case c5 => simp; omega
  intro v' w2 hown' hgrow _
  go_wp2
  go_ret
  refine ⟨v', rfl, by rw [hb]; exact hown', ?_⟩
  exact grown_trans (grown_trans (World.grownBy_alloc _ _ _) (World.grownBy_alloc _ _ _)) hgrow

theorem set4 (L : List UInt8) (o v : Nat) (ho : o + 4 ≤ L.length) (hv : v < 4294967296) :
    ((((Lib.byteCells L).set o (Value.int .u8 ((v : Int) / 16777216))).set (o + 1) (Value.int .u8 ((v : Int) / 65536 % 256))).set (o + 2) (Value.int .u8 ((v : Int) / 256 % 256))).set (o + 3) (Value.int .u8 ((v : Int) % 256)) =
      Lib.byteCells (L.take o ++ Lib.beBytes 4 v ++ L.drop (o + 4)) := by
  rw [Lib.byteCells_append, Lib.byteCells_append, be4 v hv]
  apply List.ext_getElem?
  intro k
  have hlt : (Lib.byteCells (L.take o)).length = o := by rw [Lib.byteCells_length, List.length_take]; omega
  simp only [List.getElem?_set, List.length_set, Lib.byteCells_length]
  by_cases h0 : k < o
  · rw [List.getElem?_append_left (by simp [hlt]; omega), List.getElem?_append_left (by omega)]
    rw [if_neg (by omega), if_neg (by omega), if_neg (by omega), if_neg (by omega)]
    simp [Lib.byteCells, h0]
  · by_cases h4 : k < o + 4
    · rw [List.getElem?_append_left (by simp [hlt]; omega), List.getElem?_append_right (by omega), hlt]
      rcases (show k = o ∨ k = o + 1 ∨ k = o + 2 ∨ k = o + 3 from by omega) with rfl | rfl | rfl | rfl
      · rw [if_neg (by omega), if_neg (by omega), if_neg (by omega), if_pos rfl, if_pos (by omega)]; simp
      · rw [if_neg (by omega), if_neg (by omega), if_pos rfl, if_pos (by omega)]; simp
      · rw [if_neg (by omega), if_pos rfl, if_pos (by omega)]; simp
      · rw [if_pos rfl, if_pos (by omega)]; simp
    · rw [if_neg (by omega), if_neg (by omega), if_neg (by omega), if_neg (by omega)]
      rw [List.getElem?_append_right (by simp [hlt]; omega)]
      simp only [List.length_append, hlt, List.length_cons, List.length_nil]
      simp [Lib.byteCells]
      congr 2
      omega

set_option maxHeartbeats 4000000 in
set_option maxRecDepth 100000 in
/-- PutUint32 into the middle of a row that the call owns. -/
theorem putU32 (B g o n c v : Nat) (hv : v < 4294967296) (L : List UInt8) (w : World) (hown : w.ownsRow B 5 1 (.slice (some ⟨g, 0, none⟩) n c) n (Lib.byteCells L)) (ho : o + 4 ≤ n) :
    Calls Yba.prog 10 #[.agg #[], .slice (some ⟨g, o, none⟩) (n - o) (c - o), .int .u32 v] w fun e w' => e = .returned (.tuple #[]) ∧
      w'.ownsRow B 5 1 (.slice (some ⟨g, 0, none⟩) n c) n (Lib.byteCells (L.take o ++ Lib.beBytes 4 v ++ L.drop (o + 4))) ∧ w.grownBy w' (some g) := by
  have hL : L.length = n := by have := hown.1; rw [Lib.byteCells_length] at this; omega
  have hown1 := hown.alloc (.cells #[] 46)
  have cell : ∀ k, k < n → ∃ u, (w.alloc (.cells #[] 46)).cell? ⟨g, k, none⟩ = some u := fun k hk => by
    rw [hown1.cellAt k (by omega)]
    exact ⟨_, List.getElem?_eq_getElem (by rw [Lib.byteCells_length]; omega)⟩
  obtain ⟨u0, c0⟩ := cell o (by omega)
  obtain ⟨u1, c1⟩ := cell (o + 1) (by omega)
  obtain ⟨u2, c2⟩ := cell (o + 2) (by omega)
  obtain ⟨u3, c3⟩ := cell (o + 3) (by omega)
  have fz := hown1.frozenAt
  have s0 := (hown1.stored o (Value.int .u8 ((v : Int) / 16777216)))
  have s1 := (s0.1.stored (o + 1) (Value.int .u8 ((v : Int) / 65536 % 256)))
  have s2 := (s1.1.stored (o + 2) (Value.int .u8 ((v : Int) / 256 % 256)))
  have s3 := (s2.1.stored (o + 3) (Value.int .u8 ((v : Int) % 256)))
  have hfin := s3.1
  rw [set4 L o v (by omega) hv] at hfin
  have hgr := grown_trans (grown_trans (grown_trans (grown_trans (World.grownBy_alloc w (.cells #[] 46) (some g)) s0.2) s1.2) s2.2) s3.2
  have HF : Hid (World.ownsRow _ _ _ _ _ _ _) := hfin
  have HG : Hid (World.grownBy _ _ _) := hgr
  have n1 : (1 : Int) < ((n - o : Nat) : Int) := by omega
  have n2 : (2 : Int) < ((n - o : Nat) : Int) := by omega
  have n3 : (3 : Int) < ((n - o : Nat) : Int) := by omega
  have n0 : (0 : Int) < ((n - o : Nat) : Int) := by omega
  clear s0 s1 s2 s3 hfin hgr hown hown1 cell
  go_enter Yba.func10, Yba.ntmps10
  go_wp2
  go_end0
  exact ⟨rfl, HF.out, HG.out⟩
end Go.Proofs.Ybulkcmis.Bytes
