/-
  (*Hint).Entries and its iterator at this program.
-/
import Derived.Test.YbulkcmeyAdd
import Derived.RangeFuncNested
import Derived.RangeFuncBound
import Derived.RangeFuncCalls
import Derived.RangeFuncLeaves
import Derived.Shelf.Abstract
import Derived.Shelf.RegionOpen
import Derived.OwnWalkIn
import Derived.TacticsInMore
import Derived.LoopNIn
import Derived.LoopIn
import Derived.Sort.LoopGhostIn
import Derived.Lib.QuietBelow
import Derived.BigQuiet
namespace Go.Proofs.Ybulkcmey.Rec
open Go.RowKit Go.Sort
open Go.Proofs.Ybulkcmey.Hint
attribute [local go_sem] Oper.semAt_some

set_option maxHeartbeats 1000000 in
theorem withFlags0 (x y : Int) (g o n c : Nat) (w : World) :
    Calls Yba.prog 29 #[.agg #[.int .i64 x, .int .i64 y, .slice (some ⟨g, o, none⟩) n c, .bool false, .bool false, .bool false], .int .u8 0] w fun e w' =>
      e = .returned (.agg #[.int .i64 x, .int .i64 y, .slice (some ⟨g, o, none⟩) n c, .bool false, .bool false, .bool false]) ∧ Below w.heap.size w w' := by
  go_enter Yba.func29, Yba.ntmps29
  go_wp2
  refine bodyPost_ret (v := .agg #[.int .i64 x, .int .i64 y, .slice (some ⟨g, o, none⟩) n c, .bool false, .bool false, .bool false]) (by simp [results, Yba.results29, go_sem]; decide) rfl ⟨rfl, ?_⟩
  exact ((Below.refl _ w).alloc (Nat.le_refl _) _).alloc (by simp) _

set_option maxHeartbeats 1000000 in
theorem entries (hb : Nat) (w : World) :
    Calls Yba.prog 17 #[.pointer (some ⟨hb, 0, none⟩)] w fun e w' => e = .returned (.func (.func 28) #[] #[.pointer (some ⟨w.heap.size, 0, none⟩)]) ∧ w' = w.alloc (.cells #[.pointer (some ⟨hb, 0, none⟩)] 35) := by
  go_enter Yba.func17, Yba.ntmps17
  go_wp2
  go_ret
  exact ⟨rfl, rfl⟩

/-- The size of entry k. -/
def szAt (es : List Ent) (k : Nat) : Nat := (es.map (·.size)).getD k 0

/-- An entry as the iterator hands it on. -/
def entV (es : List Ent) (g cap : Nat) (k : Nat) : Value :=
  .agg #[.int .i64 (endAt es k : Nat), .int .i64 (szAt es k : Nat), .slice (some ⟨g, posAt es k + 7, none⟩) 1 (cap - (posAt es k + 7)), .bool false, .bool false, .bool false]

/-- Entries of one byte's key and no flags. -/
def Plain (es : List Ent) : Prop := ∀ e ∈ es, e.key.length = 1 ∧ e.flags = 0 ∧ e.size < 65536

theorem Plain.fine {es : List Ent} (h : Plain es) : Fine es := fun e he => by have := h e he; exact ⟨by omega, by omega⟩

/-- What the iterator reads. -/
structure Reads (es : List Ent) (B hb g cap Bn : Nat) (e0 : Value) (W : World) : Prop where
  blk : W.heap[hb]? = some (.cells #[.slice (some ⟨g, 0, none⟩) (bufOf es).length cap, e0] 37 (0, 0))
  row : W.ownsRow B 5 1 (.slice (some ⟨g, 0, none⟩) (bufOf es).length cap) (bufOf es).length (Lib.byteCells (bufOf es))
  box : W.heap[Bn]? = some (.cells #[.pointer (some ⟨hb, 0, none⟩)] 35 (0, 0))

/-- What a round must keep of it. -/
def KpE (hb g Bn : Nat) (W W' : World) : Prop := W'.heap[hb]? = W.heap[hb]? ∧ W'.heap[g]? = W.heap[g]? ∧ W'.heap[Bn]? = W.heap[Bn]?

theorem Reads.kept {es : List Ent} {B hb g cap Bn : Nat} {e0 : Value} {W W' : World} (h : Reads es B hb g cap Bn e0 W) (hk : KpE hb g Bn W W') : Reads es B hb g cap Bn e0 W' := by
  refine ⟨hk.1.trans h.blk, ⟨h.row.1, ?_⟩, hk.2.2.trans h.box⟩
  rcases h.row.2 with hn | ⟨g', c', cur, hv, hbg, hgg, rest⟩
  · exact .inl hn
  · refine .inr ⟨g', c', cur, hv, hbg, ?_, rest⟩
    simp at hv
    rw [← hv.1]
    rw [← hv.1] at hgg
    exact hk.2.1.trans hgg

theorem Reads.below {es : List Ent} {B hb g cap Bn : Nat} {e0 : Value} {W W' : World} (h : Reads es B hb g cap Bn e0 W) (hb' : Below W.heap.size W W') : Reads es B hb g cap Bn e0 W' :=
  h.kept ⟨hb'.block _ (Array.getElem?_eq_some_iff.1 h.blk).1, hb'.block _ (h.row.lt g rfl).2, hb'.block _ (Array.getElem?_eq_some_iff.1 h.box).1⟩

theorem Reads.byte {es : List Ent} {B hb g cap Bn : Nat} {e0 : Value} {W : World} (h : Reads es B hb g cap Bn e0 W) {k : Nat} {b : UInt8} (hkb : (bufOf es)[k]? = some b) : W.cell? ⟨g, k, none⟩ = some (.int .u8 b.toNat) := by
  have h1 := h.row.cells rfl k (.int .u8 b.toNat) (by simp [Lib.byteCells, hkb])
  have hadd : (⟨g, 0, none⟩ : Addr).add k = ⟨g, k, none⟩ := by unfold Addr.add; split <;> simp_all
  rw [hadd] at h1
  exact h1

theorem range_prefix {i n : Nat} (h : i < n) : List.range i ++ [i] <+: List.range n := by
  rw [← List.range_succ]
  exact ⟨(List.range n).drop (i + 1), by
    have h1 : List.range (i + 1) = (List.range n).take (i + 1) := by rw [List.take_range]; congr 1; omega
    rw [h1, List.take_append_drop]⟩

set_option maxRecDepth 100000 in
set_option maxHeartbeats 2000000 in
theorem iterates (n : Nat) (es : List Ent) (hp : Plain es) (hlen : es.length ≤ 256) (B hb g cap Bn : Nat) (e0 : Value) (w : World) (hR : Reads es B hb g cap Bn e0 w) :
    SeqStopsK (α := { k : Nat // k < es.length }) Fence.wide n Yba.prog 28 #[.pointer (some ⟨Bn, 0, none⟩)] (fun k => #[entV es g cap k.1]) (KpE hb g Bn)
      (fun xs => xs.map (·.1) = List.range es.length) (fun pre => pre.map (·.1) <+: List.range es.length) es.length w := by
  intro l J Jx W hbW hJ hJx hY h0
  have hR0 : Reads es B hb g cap Bn e0 W := hR.below hbW
  have hll := len_le hp.fine
  have hcap : (bufOf es).length ≤ cap ∧ cap ≤ 9223372036854775807 := by
    rcases hR.row.2 with ⟨h, _⟩ | ⟨g', c', cur, h, _, _, h1, h2, _⟩
    · simp at h
    · simp at h; unfold maxLen at h2; omega
  refine callsIn_of_wp Yba.func28 rfl trivial ?_ rfl
  simp only [Yba.ntmps28, List.size_toArray, List.length_cons, List.length_nil, Nat.reduceAdd, Nat.reduceSub, Array.replicate_succ, Array.replicate_zero, List.push_toArray, List.append_toArray, List.nil_append, List.cons_append]
  gi_wp2
  gi_loopg [3, 4] es.length (fun gk e p wr => ∃ (i : Nat) (pre : List { k : Nat // k < es.length }), i + gk = es.length ∧ e = .int .i64 (endAt es i : Nat) ∧ p = .int .i64 (posAt es i : Nat) ∧ pre.map (·.1) = List.range i ∧ Reads es B hb g cap Bn e0 wr ∧ J pre wr)
  case atStart => exact ⟨0, [], by omega, by rw [endAt_zero]; rfl, by rw [posAt_zero]; rfl, rfl, hR0, h0⟩
  case round =>
    obtain ⟨i, pre, hi, rfl, rfl, hpre, hRd, hJp⟩ := hrel
    have HI : Hid (i + gk = es.length) := hi
    have HP : Hid (pre.map (·.1) = List.range i) := hpre
    have hi : i ≤ es.length := by omega
    clear hpre
    have cb : wr.cell? ⟨Bn, 0, none⟩ = some (.pointer (some ⟨hb, 0, none⟩)) := by simp [World.cell?, hRd.box]
    have ch : wr.cell? ⟨hb, 0, none⟩ = some (.slice (some ⟨g, 0, none⟩) (bufOf es).length cap) := by simp [World.cell?, hRd.blk]
    have hpl := posAt_le es i
    have hEnd := endAt_le hp.fine i
    by_cases hlast : i < es.length
    · have hx := hp es[i] (List.getElem_mem hlast)
      have hpp := posAt_lt hlast
      have hps2 : posAt es i + 8 ≤ (bufOf es).length := by have := posAt_succ hlast; have := posAt_le es (i + 1); omega
      have n1 : ¬ cap = posAt es i + 1 := by omega
      have n3 : ¬ cap = posAt es i + 3 := by omega
      have n7 : ¬ cap = posAt es i + 7 := by omega
      have w1 : IntKind.i64.wrap ((posAt es i : Int) + 1) = (posAt es i : Int) + 1 := IntWalk.i64_in _ (by omega)
      have w3 : IntKind.i64.wrap ((posAt es i : Int) + 3) = (posAt es i : Int) + 3 := IntWalk.i64_in _ (by omega)
      have t1 : ((posAt es i : Int) + 1).toNat = posAt es i + 1 := by omega
      have t3 : ((posAt es i : Int) + 3).toNat = posAt es i + 3 := by omega
      have l1 : (0 : Int) ≤ (posAt es i : Int) + 1 ∧ (posAt es i : Int) + 1 ≤ ((bufOf es).length : Int) := by omega
      have l3 : (0 : Int) ≤ (posAt es i : Int) + 3 ∧ (posAt es i : Int) + 3 ≤ ((bufOf es).length : Int) := by omega
      obtain ⟨b0, b1, q0, q1, q2, q3, e0', e1', f0, f1, f2, f3, hk, hs⟩ := head_bytes hp.fine hlast
      have cf : wr.cell? ⟨g, posAt es i, none⟩ = some (.int .u8 0) := by
        have := hRd.byte (k := posAt es i + 0) (b := es[i].flags) ((at_entry hlast 0 (by rw [enc_length]; omega)).trans rfl)
        rw [hx.2.1] at this
        simpa using this
      have r16 : Hid (∀ d os, Calls Yba.prog 25 #[.agg #[], .slice (some ⟨g, posAt es i + 1, none⟩) ((bufOf es).length - (posAt es i + 1)) (cap - (posAt es i + 1))] (grow (redrawn wr d) os) fun e w' => e = .returned (.int .u16 1) ∧ ∃ p : Regrown, w' = grow (redrawn wr p.d) p.os) := by
        intro d os
        refine Calls.regrown_of ?_
        have hR' := hRd.below (below_regrown wr d os)
        refine (readU16 g (posAt es i + 1) _ _ b0 b1 _ (by omega) (hR'.byte e0') (hR'.byte e1')).mono ?_
        rintro e w' ⟨rfl, hb'⟩
        exact ⟨by rw [hk, hx.1]; rfl, hb'⟩
      have r32 : Hid (∀ wr', Reads es B hb g cap Bn e0 wr' → ∀ d os, Calls Yba.prog 26 #[.agg #[], .slice (some ⟨g, posAt es i + 3, none⟩) ((bufOf es).length - (posAt es i + 3)) (cap - (posAt es i + 3))] (grow (redrawn wr' d) os) fun e w' => e = .returned (.int .u32 (es[i].size : Nat)) ∧ ∃ p : Regrown, w' = grow (redrawn wr' p.d) p.os) := by
        intro wr' hw' d os
        refine Calls.regrown_of ?_
        have hR' := hw'.below (below_regrown wr' d os)
        refine (readU32 g (posAt es i + 3) _ _ q0 q1 q2 q3 _ (by omega) (hR'.byte f0) (hR'.byte f1) (hR'.byte f2) (hR'.byte f3)).mono ?_
        rintro e w' ⟨rfl, hb'⟩
        exact ⟨by rw [hs], hb'⟩
      clear e0' e1' f0 f1 f2 f3 hk hs
      have gb := fun d os => cell_regrown cb d os
      have gh := fun d os => cell_regrown ch d os
      gi_wp2
      refine wpIn_wide.2 ?_
      refine wp_region_quiet_below (by kernel_rfl) (by kernel_rfl) ?_
      repeat (quiet_step (exact r16.out _ _))
      refine wpQuiet_nil ?_
      intro _ hw'
      obtain ⟨⟨dq, osq⟩, hw''⟩ := hw'
      subst hw''
      have hb1 := below_regrown wr dq osq
      have hR1 := hRd.below hb1
      have hJ1 : J pre (grow (redrawn wr dq) osq) := hJ pre wr _ none hJp (grown_below none hb1) (by simp)
      dsimp only
      generalize grow (redrawn wr dq) osq = w1 at *
      clear hb1 hJp hRd cb ch gb gh r16 n1 t1 l1
      have ww : IntKind.i64.wrap 1 = 1 := by decide
      have wsz : IntKind.i64.wrap (es[i].size : Int) = (es[i].size : Int) := IntWalk.i64_in _ (by omega)
      have cb : w1.cell? ⟨Bn, 0, none⟩ = some (.pointer (some ⟨hb, 0, none⟩)) := by simp [World.cell?, hR1.box]
      have ch : w1.cell? ⟨hb, 0, none⟩ = some (.slice (some ⟨g, 0, none⟩) (bufOf es).length cap) := by simp [World.cell?, hR1.blk]
      have gb := fun d os => cell_regrown cb d os
      have gh := fun d os => cell_regrown ch d os
      gi_wp2
      refine wpIn_wide.2 ?_
      refine wp_region_quiet_below (by kernel_rfl) (by kernel_rfl) ?_
      repeat (quiet_step (exact r32.out _ hR1 _ _))
      refine wpQuiet_nil ?_
      intro _ hw'
      obtain ⟨⟨dq, osq⟩, hw''⟩ := hw'
      subst hw''
      have hb2 := below_regrown w1 dq osq
      have hR2 := hR1.below hb2
      have hJ2 : J pre (grow (redrawn w1 dq) osq) := hJ pre w1 _ none hJ1 (grown_below none hb2) (by simp)
      dsimp only
      generalize grow (redrawn w1 dq) osq = w2 at *
      clear hb2 hJ1 hR1 cb ch gb gh r32 n3 t3 l3
      have cb : w2.cell? ⟨Bn, 0, none⟩ = some (.pointer (some ⟨hb, 0, none⟩)) := by simp [World.cell?, hR2.box]
      have ch : w2.cell? ⟨hb, 0, none⟩ = some (.slice (some ⟨g, 0, none⟩) (bufOf es).length cap) := by simp [World.cell?, hR2.blk]
      gi_wp2_with fail
      refine ⟨trivial, fun h => by simp [Fence.wide] at h, ?_⟩
      refine (callsIn_wide.2 (withFlags0 _ _ _ _ _ _ _)).mono ?_
      rintro e w3 ⟨rfl, hb3⟩
      have hb3' : Below w2.heap.size w2 w3 := ((Below.refl _ w2).alloc (Nat.le_refl _) _).trans (hb3.mono (by simp))
      have hR3 := hR2.below hb3'
      have hJ3 : J pre w3 := hJ pre w2 _ none hJ2 (grown_below none hb3') (by simp)
      clear hJ2 hR2 cb ch hb3 hb3'
      have hpl' : pre.length = i := by have := congrArg List.length HP.out; simpa using this
      obtain ⟨fn, tmps, assign, body, hy, hRd⟩ := hY pre ⟨i, hlast⟩ w3 hJ3 (by omega)
      have hsz' : szAt es i = es[i].size := by simp [szAt, List.getD, List.getElem?_eq_getElem hlast]
      simp only [entV, hsz'] at hy
      clear hsz'
      have HPL : Hid (pre.length = i) := hpl'
      clear hpl'
      gi_wp2_with fail
      refine ⟨fun h => by simp [Fence.wide] at h, ?_⟩
      refine hRd.mono ?_
      rintro e W3 (⟨rfl, hJ4, hk4⟩ | ⟨rfl, hJx4⟩)
      · have hR4 := hR3.kept hk4
        clear hR3 hJ3 hy hRd hk4
        gi_wp2
        gi_roundg (gk - 1)
        case measure => have := HI.out; omega
        case rel =>
          refine ⟨i + 1, pre ++ [⟨i, hlast⟩], by have := HI.out; omega, ?_, ?_, ?_, hR4, hJ4⟩
          · rw [endAt_succ hlast]; go_num
          · rw [posAt_succ hlast, hx.1]; go_num
          · rw [List.map_append, HP.out, List.range_succ]; rfl
      · gi_wp2
        refine bodyPost_ret (results_none rfl _ _ _) rfl ?_
        refine ⟨⟨_, rfl⟩, .inr ⟨pre ++ [⟨i, hlast⟩], ?_, hJx4⟩⟩
        rw [List.map_append, HP.out]
        exact range_prefix hlast
    · have hge : (bufOf es).length ≤ posAt es i := by
        have h1 : i = es.length := by omega
        rw [h1, posAt_all]; exact Nat.le_refl _
      have hie : i = es.length := by omega
      have HE : Hid (i = es.length) := hie
      clear hie
      gi_wp2
      go_end0
      exact ⟨⟨_, rfl⟩, .inl ⟨pre, by rw [HP.out, HE.out], hJp⟩⟩
end Go.Proofs.Ybulkcmey.Rec
