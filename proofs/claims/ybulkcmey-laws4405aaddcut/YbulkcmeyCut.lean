/-
  (*Hint).Cut at this program: its contract.
-/
import Derived.Test.YbulkcmeyRec
import Derived.Deep.RegionWith
import Derived.BigRegion
import Derived.OneCell
import Derived.Deep.LoopGhost
import Derived.Deep.DeepCutAuto
import Derived.IntWalk
namespace Go.Proofs.Ybulkcmey.Rec
open Go.RowKit
open Go.Proofs.Ybulkcmey.Hint

theorem set0 {w : World} {b : Nat} {x y : Value} {t : TypeId} (h : w.heap[b]? = some (.cells #[x, y] t (0, 0))) (v : Value) : (w.setCell ⟨b, 0, none⟩ v).heap[b]? = some (.cells #[v, y] t (0, 0)) := by
  simp [World.setCell, Array.getElem?_modify, h]
theorem set1 {w : World} {b : Nat} {x y : Value} {t : TypeId} (h : w.heap[b]? = some (.cells #[x, y] t (0, 0))) (v : Value) : (w.setCell ⟨b, 1, none⟩ v).heap[b]? = some (.cells #[x, v] t (0, 0)) := by
  simp [World.setCell, Array.getElem?_modify, h]

theorem grown_setCell {w w' : World} {b o : Nat} (h : w.grownBy w' (some b)) (v : Value) : w.grownBy (w'.setCell ⟨b, o, none⟩ v) (some b) :=
  ⟨h.os, h.tape, h.output, by simpa [World.setCell] using h.size, fun k hk hne => (Below.heap_setCell _ _ _ _ (by intro e; exact hne (by rw [e]))).trans (h.block k hk hne)⟩

theorem grown_below {w w' : World} (r : Option Nat) (h : Below w.heap.size w w') : w.grownBy w' r := ⟨h.os, h.tape, h.output, h.size, fun k hk _ => h.block k hk⟩

theorem stored {w wc : World} {b : Nat} {x y : Value} {t : TypeId} (h : w.heap[b]? = some (.cells #[x, y] t (0, 0))) (hb : Below w.heap.size w wc) (u v : Value) :
    ((wc.setCell ⟨b, 0, none⟩ u).setCell ⟨b, 1, none⟩ v).heap[b]? = some (.cells #[u, v] t (0, 0)) ∧ w.grownBy ((wc.setCell ⟨b, 0, none⟩ u).setCell ⟨b, 1, none⟩ v) (some b) := by
  have hlt : b < w.heap.size := (Array.getElem?_eq_some_iff.1 h).1
  have h' := (hb.block b hlt).trans h
  exact ⟨set1 (set0 h' u) v, grown_setCell (grown_setCell (grown_below _ hb) u) v⟩

theorem stored1 {w wc : World} {b : Nat} {x y : Value} {t : TypeId} (h : w.heap[b]? = some (.cells #[x, y] t (0, 0))) (hb : Below w.heap.size w wc) (v : Value) :
    (wc.setCell ⟨b, 1, none⟩ v).heap[b]? = some (.cells #[x, v] t (0, 0)) ∧ w.grownBy (wc.setCell ⟨b, 1, none⟩ v) (some b) := by
  have hlt : b < w.heap.size := (Array.getElem?_eq_some_iff.1 h).1
  have h' := (hb.block b hlt).trans h
  exact ⟨set1 h' v, grown_setCell (grown_below _ hb) v⟩

set_option maxHeartbeats 1000000 in
set_option maxRecDepth 100000 in
theorem cut (B hb g cap : Nat) (es : List Ent) (off oldEnd : Int) (w : World) (hf : Fine es) (hlen : es.length ≤ 256)
    (hblk : w.heap[hb]? = some (.cells #[.slice (some ⟨g, 0, none⟩) (bufOf es).length cap, .int .i64 oldEnd] 37 (0, 0)))
    (hown : w.ownsRow B 5 1 (.slice (some ⟨g, 0, none⟩) (bufOf es).length cap) (bufOf es).length (Lib.byteCells (bufOf es))) :
    Calls Yba.prog 13 #[.pointer (some ⟨hb, 0, none⟩), .int .i64 off] w fun e w' => e = .returned (.tuple #[]) ∧ ∃ i, IsCut es off i ∧
      w'.heap[hb]? = some (.cells #[.slice (some ⟨g, 0, none⟩) (posAt es i) cap, .int .i64 (endAt es i)] 37 (0, 0)) ∧ w.grownBy w' (some hb) := by
  have hlt : hb < w.heap.size := (Array.getElem?_eq_some_iff.1 hblk).1
  have HB : Hid (w.heap[hb]? = some (.cells #[.slice (some ⟨g, 0, none⟩) (bufOf es).length cap, .int .i64 oldEnd] 37 (0, 0))) := hblk
  have HO : Hid (w.ownsRow B 5 1 (.slice (some ⟨g, 0, none⟩) (bufOf es).length cap) (bufOf es).length (Lib.byteCells (bufOf es))) := hown
  have hll := len_le hf
  have hcap : (bufOf es).length ≤ cap ∧ cap ≤ maxLen := by
    rcases hown.2 with ⟨h, _⟩ | ⟨g', c', cur, h, _, _, h1, h2, _⟩
    · simp at h
    · simp at h; omega
  clear hblk hown
  have hc0 : w.cell? ⟨hb, 0, none⟩ = some (.slice (some ⟨g, 0, none⟩) (bufOf es).length cap) := by simp [World.cell?, HB.out]
  go_enter Yba.func13, Yba.ntmps13
  go_wp2
  go_loopg [4, 5] es.length (fun gk e p wr => ∃ i : Nat, i + gk = es.length ∧ e = .int .i64 (endAt es i) ∧ p = .int .i64 (posAt es i) ∧ (∀ j, j < i → (endAt es j : Int) < off) ∧ Below w.heap.size w wr)
  case atStart => exact ⟨0, by omega, by rw [endAt_zero]; rfl, by rw [posAt_zero]; rfl, fun _ h => absurd h (Nat.not_lt_zero _), Below.refl _ _⟩
  case round =>
    obtain ⟨i, hi, rfl, rfl, hj, hbel⟩ := hrel
    have HJ : Hid (∀ j, j < i → (endAt es j : Int) < off) := hj
    have HI : Hid (i + gk = es.length) := hi
    have hi : i ≤ es.length := by omega
    clear hj
    have hc1 : wr.cell? ⟨hb, 0, none⟩ = some (.slice (some ⟨g, 0, none⟩) (bufOf es).length cap) := (hbel.cell (by exact hlt)).trans hc0
    have hpl := posAt_le es i
    have hEnd := endAt_le hf i
    unfold maxLen at hcap
    by_cases hlast : i < es.length
    · have hp := posAt_lt hlast
      have hps2 : posAt es i + 7 ≤ (bufOf es).length := by have := posAt_succ hlast; have := posAt_le es (i + 1); omega
      have n1 : ¬ cap = posAt es i + 1 := by omega
      have n3 : ¬ cap = posAt es i + 3 := by omega
      have w1 : IntKind.i64.wrap ((posAt es i : Int) + 1) = (posAt es i : Int) + 1 := IntWalk.i64_in _ (by omega)
      have w3 : IntKind.i64.wrap ((posAt es i : Int) + 3) = (posAt es i : Int) + 3 := IntWalk.i64_in _ (by omega)
      have t1 : ((posAt es i : Int) + 1).toNat = posAt es i + 1 := by omega
      have t3 : ((posAt es i : Int) + 3).toNat = posAt es i + 3 := by omega
      have l1 : (0 : Int) ≤ (posAt es i : Int) + 1 ∧ (posAt es i : Int) + 1 ≤ ((bufOf es).length : Int) := by omega
      have l3 : (0 : Int) ≤ (posAt es i : Int) + 3 ∧ (posAt es i : Int) + 3 ≤ ((bufOf es).length : Int) := by omega
      obtain ⟨b0, b1, q0, q1, q2, q3, e0, e1, f0, f1, f2, f3, hk, hs⟩ := head_bytes hf hlast
      have hcl : ∀ wx, Below w.heap.size w wx → ∀ k b, (bufOf es)[k]? = some b → wx.cell? ⟨g, k, none⟩ = some (.int .u8 b.toNat) := by
        intro wx hx k b hkb
        have hgl : g < w.heap.size := (HO.out.lt g rfl).2
        have h1 := HO.out.cells rfl k (.int .u8 b.toNat) (by simp [Lib.byteCells, hkb])
        have hadd : (⟨g, 0, none⟩ : Addr).add k = ⟨g, k, none⟩ := by unfold Addr.add; split <;> simp_all
        rw [hadd] at h1
        exact (hx.cell (p := ⟨g, k, none⟩) hgl).trans h1
      have r16 : Hid (∀ wx, Below w.heap.size w wx → Calls Yba.prog 25 #[.agg #[], .slice (some ⟨g, posAt es i + 1, none⟩) ((bufOf es).length - (posAt es i + 1)) (cap - (posAt es i + 1))] wx fun e w' => e = .returned (.int .u16 (es[i].key.length : Nat)) ∧ Below w.heap.size w w') := by
        intro wx hx
        refine (readU16 g (posAt es i + 1) _ _ b0 b1 wx (by omega) (hcl wx hx _ _ e0) (hcl wx hx _ _ e1)).mono ?_
        rintro e w' ⟨rfl, hb'⟩
        exact ⟨by rw [hk], hx.trans (hb'.mono hx.size)⟩
      have r32 : Hid (∀ wx, Below w.heap.size w wx → Calls Yba.prog 26 #[.agg #[], .slice (some ⟨g, posAt es i + 3, none⟩) ((bufOf es).length - (posAt es i + 3)) (cap - (posAt es i + 3))] wx fun e w' => e = .returned (.int .u32 (es[i].size : Nat)) ∧ Below w.heap.size w w') := by
        intro wx hx
        refine (readU32 g (posAt es i + 3) _ _ q0 q1 q2 q3 wx (by omega) (hcl wx hx _ _ f0) (hcl wx hx _ _ f1) (hcl wx hx _ _ f2) (hcl wx hx _ _ f3)).mono ?_
        rintro e w' ⟨rfl, hb'⟩
        exact ⟨by rw [hs], hx.trans (hb'.mono hx.size)⟩
      clear e0 e1 f0 f1 f2 f3 hk hs hcl
      have hkl := (hf es[i] (List.getElem_mem hlast)).1
      have hsz := (hf es[i] (List.getElem_mem hlast)).2
      go_upto_region 3 with fail
      go_cut [6] (fun k wx => k = .int .i64 (es[i].key.length : Nat) ∧ Below w.heap.size w wx)
      case first =>
        go_region_with (go_at_call 25; refine (r16.out _ hbel.drew).mono ?_; rintro e w1 ⟨rfl, hb1⟩)
        all_goals (go_wp2_with fail; go_meet; refine ⟨by rw [IntWalk.i64_in _ (by omega)], hb1⟩)
      case rest =>
        obtain ⟨rfl, hb1⟩ := hcut
        have hc2 : wc.cell? ⟨hb, 0, none⟩ = some (.slice (some ⟨g, 0, none⟩) (bufOf es).length cap) := (hb1.cell (by exact hlt)).trans hc0
        clear hc1 hbel
        go_upto_region 4 with fail
        go_cut [7] (fun k wx => k = .int .i64 (es[i].size : Nat) ∧ Below w.heap.size w wx)
        case first =>
          go_region_with (go_at_call 26; refine (r32.out _ hb1.drew).mono ?_; rintro e w1 ⟨rfl, hb2⟩)
          all_goals (go_wp2_with fail; go_meet; refine ⟨by rw [IntWalk.i64_in _ (by omega)], hb2⟩)
        case rest =>
          obtain ⟨rfl, hb2⟩ := hcut
          have hc3 : wc.cell? ⟨hb, 0, none⟩ = some (.slice (some ⟨g, 0, none⟩) (bufOf es).length cap) := (hb2.cell (by exact hlt)).trans hc0
          have hfz : ∀ o, wc.frozen? ⟨hb, o, none⟩ = false := fun o => (hb2.frozen (p := ⟨hb, o, none⟩) hlt).trans (by simp [World.frozen?, HB.out])
          have hc4 : wc.cell? ⟨hb, 1, none⟩ = some (.int .i64 oldEnd) := (hb2.cell (p := ⟨hb, 1, none⟩) hlt).trans (by simp [World.cell?, HB.out])
          clear hc2 hb1 r16 r32 w1 w3 t1 t3 l1 l3 n1 n3 hf
          by_cases hcut' : off ≤ (endAt es i : Int)
          · go_wp2
            go_end0
            refine ⟨rfl, i, ⟨hi, HJ.out, fun _ => hcut'⟩, ?_⟩
            exact stored HB.out hb2 _ _
          · have hlt' : (endAt es i : Int) < off := by omega
            have hee : endAt es i ≤ 24 + es.length * 4294967296 := hEnd
            go_wp2
            go_roundg (gk - 1)
            case measure => have := HI.out; omega
            case rel =>
              refine ⟨i + 1, by have := HI.out; omega, ?_, ?_, ?_, hb2⟩
              · rw [endAt_succ hlast]; go_num
              · rw [posAt_succ hlast]; go_num
              · intro j hj
                by_cases e : j = i
                · subst e; exact hlt'
                · exact HJ.out j (by omega)
    · have hge : (bufOf es).length ≤ posAt es i := by
        have h1 : i = es.length := by omega
        rw [h1, posAt_all]; exact Nat.le_refl _
      have hfz : ∀ o, wr.frozen? ⟨hb, o, none⟩ = false := fun o => (hbel.frozen (p := ⟨hb, o, none⟩) hlt).trans (by simp [World.frozen?, HB.out])
      have hc4 : wr.cell? ⟨hb, 1, none⟩ = some (.int .i64 oldEnd) := (hbel.cell (p := ⟨hb, 1, none⟩) hlt).trans (by simp [World.cell?, HB.out])
      go_wp2
      go_end0
      refine ⟨rfl, i, ⟨hi, HJ.out, fun h => absurd h hlast⟩, ?_⟩
      have hpe : posAt es i = (bufOf es).length := by omega
      rw [hpe]
      exact stored1 HB.out hbel _
end Go.Proofs.Ybulkcmey.Rec
