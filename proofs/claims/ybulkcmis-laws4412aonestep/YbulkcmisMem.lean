/-
  Memory that the call owns: frames, rows of bytes, an append from whatever source. No program in sight.
-/
import Derived.WalkKit
import Derived.OwnWalk
import Derived.Lib.Endian
import Derived.Lib.UnsafeStr
import Derived.Laws.OwnMore
import Derived.Laws.AppendOwnNone
import Derived.RegionTactic
namespace Go.Proofs.Ybulkcmis.Mem
open Go Go.RowKit

theorem grown_trans {w1 w2 w3 : World} {r : Option Nat} (h : w1.grownBy w2 r) (k : w2.grownBy w3 r) : w1.grownBy w3 r :=
  ⟨k.os.trans h.os, k.tape.trans h.tape, k.output.trans h.output, Nat.le_trans h.size k.size,
    fun j hj hne => (k.block j (Nat.lt_of_lt_of_le hj h.size) hne).trans (h.block j hj hne)⟩

theorem grown_setCell {w w' : World} {b o : Nat} (h : w.grownBy w' (some b)) (v : Value) : w.grownBy (w'.setCell ⟨b, o, none⟩ v) (some b) :=
  ⟨h.os, h.tape, h.output, by simpa [World.setCell] using h.size, fun k hk hne => (Below.heap_setCell _ _ _ _ (by intro e; exact hne (by rw [e]))).trans (h.block k hk hne)⟩

theorem grown_below {w w' : World} (r : Option Nat) (h : Below w.heap.size w w') : w.grownBy w' r := ⟨h.os, h.tape, h.output, h.size, fun k hk _ => h.block k hk⟩

theorem shape {w : World} {B : Nat} {e : TypeId} {v : Value} {n s : Nat} {xs : List Value} (h : w.ownsRow B e s v n xs) (hn : 0 < n) : ∃ g c, v = .slice (some ⟨g, 0, none⟩) n c := by
  rcases h.2 with ⟨_, h0⟩ | ⟨g, cap, cur, rfl, _⟩
  · omega
  · exact ⟨g, cap, rfl⟩

theorem row_cell {w : World} {B : Nat} {e : TypeId} {g n c : Nat} {xs : List Value} (h : w.ownsRow B e 1 (.slice (some ⟨g, 0, none⟩) n c) n xs) {k : Nat} {u : Value} (hk : xs[k]? = some u) : w.cell? ⟨g, k, none⟩ = some u := by
  have := h.cells rfl k u hk
  have hadd : (⟨g, 0, none⟩ : Addr).add k = ⟨g, k, none⟩ := by unfold Addr.add; split <;> simp_all
  rw [hadd] at this
  exact this

/-- Is the block a row of bytes? -/
def isBytes : Obj → Bool
  | .cells _ t _ => t == 5
  | _ => false

/-- Below B all is as it was; so is every block that is no row of bytes, but for block hb. -/
structure Fr (B hb : Nat) (w w' : World) : Prop where
  bel : Below B w w'
  keep : ∀ k o, w.heap[k]? = some o → k ≠ hb → isBytes o = false → w'.heap[k]? = some o

theorem Fr.refl (B hb : Nat) (w : World) : Fr B hb w w := ⟨Below.refl _ _, fun _ _ h _ _ => h⟩
theorem Fr.trans {B hb : Nat} {a b c : World} (h : Fr B hb a b) (k : Fr B hb b c) : Fr B hb a c := ⟨h.bel.trans k.bel, fun j o hj hne ho => k.keep j o (h.keep j o hj hne ho) hne ho⟩
theorem Fr.of_below {B hb : Nat} {w w' : World} (hB : B ≤ w.heap.size) (h : Below w.heap.size w w') : Fr B hb w w' :=
  ⟨h.mono hB, fun k _ hk _ _ => (h.block k (Array.getElem?_eq_some_iff.1 hk).1).trans hk⟩
theorem Fr.alloc {B hb : Nat} {w : World} (hB : B ≤ w.heap.size) (o : Obj) : Fr B hb w (w.alloc o) := Fr.of_below hB ((Below.refl _ w).alloc (Nat.le_refl _) o)
theorem Fr.drew {B hb : Nat} {a w : World} (h : Fr B hb a w) : Fr B hb a w.drew := ⟨h.bel.drew, h.keep⟩
theorem Fr.setCell {B hb : Nat} {w : World} (hB : B ≤ hb) (o : Nat) (v : Value) : Fr B hb w (w.setCell ⟨hb, o, none⟩ v) :=
  ⟨(Below.refl _ w).setCell (p := ⟨hb, o, none⟩) hB v, fun k _ hk hne _ => (Below.heap_setCell w ⟨hb, o, none⟩ v k hne).trans hk⟩
theorem Fr.grown {B hb : Nat} {w w' : World} {v : Value} {n : Nat} {xs : List Value} (hg : w.grownBy w' v.ownBlock) (ho : w.ownsRow B 5 1 v n xs) (hB : B ≤ w.heap.size) : Fr B hb w w' := by
  refine ⟨(Below.refl _ w).grown hg hB (fun k hk => (ho.lt k hk).1), fun k o hk hne hb' => ?_⟩
  rw [hg.block k (Array.getElem?_eq_some_iff.1 hk).1, hk]
  rcases ho.2 with ⟨rfl, _⟩ | ⟨g, cap, cur, rfl, _, hgg, _⟩
  · simp [Value.ownBlock]
  · simp only [Value.ownBlock]
    intro e
    simp at e
    subst e
    rw [hk] at hgg
    simp at hgg
    subst hgg
    simp [isBytes] at hb'

/-- A slice of bytes that came in (or that nobody writes): nil, or an address behind which the bytes lie. -/
def BytesAt (w : World) (ao : Option Addr) (m : Nat) (bs : List UInt8) : Prop :=
  bs.length = m ∧ (ao = none → m = 0) ∧ ∀ ad, ao = some ad → ∀ j u, (Lib.byteCells bs)[j]? = some u → w.cell? (ad.add j) = some u

theorem BytesAt.below {w w' : World} {ao : Option Addr} {m : Nat} {bs : List UInt8} (h : BytesAt w ao m bs) (hb : Below w.heap.size w w') : BytesAt w' ao m bs :=
  ⟨h.1, h.2.1, fun ad e j u hj => by
    have h1 := h.2.2 ad e j u hj
    exact (hb.cell (World.block_lt_of_cell? w _ h1)).trans h1⟩

theorem BytesAt.below' {B : Nat} {w0 w w' : World} {ao : Option Addr} {m : Nat} {bs : List UInt8} (h : BytesAt w0 ao m bs) (h0 : Below B w0 w) (hlt : ∀ ad, ao = some ad → 0 < m → ad.block < B) (hb : Below B w w') : BytesAt w' ao m bs :=
  ⟨h.1, h.2.1, fun ad e j u hj => by
    have h1 := h.2.2 ad e j u hj
    have hm : 0 < m := by
      have := (List.getElem?_eq_some_iff.1 hj).1
      rw [Lib.byteCells_length, h.1] at this
      omega
    have hl : (ad.add j).block < B := by have := hlt ad e hm; unfold Addr.add; split <;> simpa using this
    exact ((h0.trans hb).cell hl).trans h1⟩

theorem one_bytes (bs : List UInt8) : ∀ u ∈ Lib.byteCells bs, u.oneCell' = true := by
  intro u hu
  obtain ⟨x, _, rfl⟩ := List.mem_map.1 hu
  rfl

/-- append(b, src...), b a row of bytes that the call owns, src whatever: at the builtin's run. -/
theorem run_append_src {P : Program} (w : World) (B : Nat) (t ty : TypeId) (i : TypeInfo) (ht : P.underlying t = some (.slice 5)) (hi : P.info? 5 = some i) (hz : i.zero = some (.int .u8 0)) (hs1 : i.size = 1) (hb1 : i.bytes = 1)
    (v : Value) (n : Nat) (xs : List Value) (hown : w.ownsRow B 5 1 v n xs) (ao : Option Addr) (m c : Nat) (bs : List UInt8) (hsrc : BytesAt w ao m bs) (hc : ao = none → c = 0) (hlim : n + m ≤ 140737488355328) (hB : B ≤ w.heap.size) :
    ∃ v' w', (Builtin.append_ #[t, t] ty #[v, .slice ao m c]).run P w = .ok v' w' ∧ w'.ownsRow B 5 1 v' (n + m) (xs ++ Lib.byteCells bs) ∧ w.grownBy w' v.ownBlock := by
  cases ao with
  | some ad =>
    obtain ⟨v', w', hr, h2, h3, _⟩ := run_append_own (P := P) w B t ty 5 i (.int .u8 0) 1 1 ht hi hz hs1 hb1 rfl (by decide) v n xs hown ad m c (Lib.byteCells bs) (by rw [Lib.byteCells_length, hsrc.1]; omega) (hsrc.2.2 ad rfl) (one_bytes bs) (by unfold maxLen; omega) (by omega) hB
    exact ⟨v', w', hr, h2, h3⟩
  | none =>
    obtain rfl := hsrc.2.1 rfl
    obtain rfl := hc rfl
    have hbs : bs = [] := List.eq_nil_of_length_eq_zero hsrc.1
    subst hbs
    refine ⟨v, w, run_append_owned_none (P := P) (w := w) B t ty 5 i 1 ht hi v n xs hown, by simpa [Lib.byteCells] using hown, ⟨rfl, rfl, rfl, Nat.le_refl _, fun _ _ _ => rfl⟩⟩

theorem wp_append_src {P : Program} (w : World) {o : Oper} {a : Act} {K : Act → World → Prop} {Q : Exit → Act → World → Prop} (s x : Operand) (t : TypeId) (ho : o.op = .call { callee := .builtin .append, args := #[s, x], argTypes := #[t, t] })
    (B : Nat) (i : TypeInfo) (ht : P.underlying t = some (.slice 5)) (hi : P.info? 5 = some i) (hz : i.zero = some (.int .u8 0)) (hs1 : i.size = 1) (hb1 : i.bytes = 1)
    (v : Value) (n : Nat) (xs : List Value) (hs : a.eval s = v) (hown : w.ownsRow B 5 1 v n xs) (ao : Option Addr) (m c : Nat) (bs : List UInt8) (hx : a.eval x = .slice ao m c) (hsrc : BytesAt w ao m bs) (hc : ao = none → c = 0) (hlim : n + m ≤ 140737488355328) (hB : B ≤ w.heap.size)
    (h : ∀ v' w', w'.ownsRow B 5 1 v' (n + m) (xs ++ Lib.byteCells bs) → w.grownBy w' v.ownBlock → K (a.put o.dst v') w') : o.wp P a w K Q := by
  obtain ⟨v', w', hr, h2, h3⟩ := run_append_src (P := P) w B t o.type i ht hi hz hs1 hb1 v n xs hown ao m c bs hsrc hc hlim hB
  unfold Oper.wp execOp
  simp only [ho, resolve, invoke, builtin, Sem.run_bind, Sem.run_pure, Result.andThen_ok, List.map_toArray, List.map_cons, List.map_nil, hs, hx, hr]
  exact h v' w' h2 h3

theorem wpList_append_src {P : Program} (w : World) {ops : Array Oper} {rest : List Oper} {o : Oper} {a : Act} {Q : Exit → Act → World → Prop} (hgd : o.guard = none) (s x : Operand) (t : TypeId) (ho : o.op = .call { callee := .builtin .append, args := #[s, x], argTypes := #[t, t] })
    (B : Nat) (i : TypeInfo) (ht : P.underlying t = some (.slice 5)) (hi : P.info? 5 = some i) (hz : i.zero = some (.int .u8 0)) (hs1 : i.size = 1) (hb1 : i.bytes = 1)
    (v : Value) (n : Nat) (xs : List Value) (hs : a.eval s = v) (hown : w.ownsRow B 5 1 v n xs) (ao : Option Addr) (m c : Nat) (bs : List UInt8) (hx : a.eval x = .slice ao m c) (hsrc : BytesAt w ao m bs) (hc : ao = none → c = 0) (hlim : n + m ≤ 140737488355328) (hB : B ≤ w.heap.size)
    (h : ∀ v' w', w'.ownsRow B 5 1 v' (n + m) (xs ++ Lib.byteCells bs) → w.grownBy w' v.ownBlock → wpList P ops Q rest (a.put o.dst v') w') : wpList P ops Q (o :: rest) a w :=
  wpList_plain hgd fun _ hK => wp_append_src w s x t ho B i ht hi hz hs1 hb1 v n xs hs hown ao m c bs hx hsrc hc hlim hB fun v' w' h2 h3 => hK _ _ (h v' w' h2 h3)

theorem step_append_src {P : Program} (w : World) {ops : Array Oper} {o : Oper} {a : Act} {K : Act → World → Prop} {Q : Exit → Act → World → Prop} {E : Prop} (hgd : o.guard = none) (s x : Operand) (t : TypeId) (ho : o.op = .call { callee := .builtin .append, args := #[s, x], argTypes := #[t, t] })
    (B : Nat) (i : TypeInfo) (ht : P.underlying t = some (.slice 5)) (hi : P.info? 5 = some i) (hz : i.zero = some (.int .u8 0)) (hs1 : i.size = 1) (hb1 : i.bytes = 1)
    (v : Value) (n : Nat) (xs : List Value) (hs : a.eval s = v) (hown : w.ownsRow B 5 1 v n xs) (ao : Option Addr) (m c : Nat) (bs : List UInt8) (hx : a.eval x = .slice ao m c) (hsrc : BytesAt w ao m bs) (hc : ao = none → c = 0) (hlim : n + m ≤ 140737488355328) (hB : B ≤ w.heap.size)
    (h : ∀ v' w', w'.ownsRow B 5 1 v' (n + m) (xs ++ Lib.byteCells bs) → w.grownBy w' v.ownBlock → K (a.put o.dst v') w') :
    if Region.wanted o (yielded ops a.tmps) = true then Oper.wp P o a w K Q else E := by
  have hw : Region.wanted o (yielded ops a.tmps) = true := by simp [Region.wanted, hgd]
  rw [if_pos hw]
  exact wp_append_src w s x t ho B i ht hi hz hs1 hb1 v n xs hs hown ao m c bs hx hsrc hc hlim hB h

/-- The middle states of a writer's add: the writer's block holds hc, the segment's sc; v owns the bytes bs. -/
structure AS (B hb sb : Nat) (w wx : World) (hc sc : Array Value) (v : Value) (n : Nat) (bs : List Value) : Prop where
  blk : wx.heap[hb]? = some (.cells hc 31 (0, 0))
  row : wx.ownsRow B 5 1 v n bs
  seg : wx.heap[sb]? = some (.cells sc 34 (0, 0))
  fr : Fr B hb w wx
  hB : B ≤ hb
  sz : B ≤ wx.heap.size

section
variable {B hb sb : Nat} {w wx : World} {hc sc : Array Value} {v : Value} {n : Nat} {bs : List Value}

theorem AS.drew (h : AS B hb sb w wx hc sc v n bs) : AS B hb sb w wx.drew hc sc v n bs := ⟨h.blk, h.row, h.seg, h.fr.drew, h.hB, h.sz⟩
theorem AS.below (h : AS B hb sb w wx hc sc v n bs) {w' : World} (hb' : Below wx.heap.size wx w') : AS B hb sb w w' hc sc v n bs :=
  ⟨(hb'.block _ (Array.getElem?_eq_some_iff.1 h.blk).1).trans h.blk, h.row.kept (grown_below none hb') (by cases v.ownBlock <;> simp), (hb'.block _ (Array.getElem?_eq_some_iff.1 h.seg).1).trans h.seg,
    h.fr.trans (Fr.of_below h.sz hb'), h.hB, Nat.le_trans h.sz hb'.size⟩
theorem AS.alloc (h : AS B hb sb w wx hc sc v n bs) (o : Obj) : AS B hb sb w (wx.alloc o) hc sc v n bs := h.below ((Below.refl _ wx).alloc (Nat.le_refl _) o)
theorem AS.ne (h : AS B hb sb w wx hc sc v n bs) : some hb ≠ v.ownBlock := by
  rcases h.row.2 with ⟨rfl, _⟩ | ⟨g, cap, cur, rfl, _, hgg, _⟩
  · simp [Value.ownBlock]
  · simp only [Value.ownBlock]
    intro e
    simp at e
    subst e
    rw [h.blk] at hgg
    simp at hgg
theorem AS.grow (h : AS B hb sb w wx hc sc v n bs) {w' : World} {v' : Value} {n' : Nat} {bs' : List Value} (hg : wx.grownBy w' v.ownBlock) (ho : w'.ownsRow B 5 1 v' n' bs') : AS B hb sb w w' hc sc v' n' bs' := by
  have fr : Fr B hb wx w' := Fr.grown hg h.row h.sz
  refine ⟨(hg.block hb (Array.getElem?_eq_some_iff.1 h.blk).1 h.ne).trans h.blk, ho, fr.keep sb _ h.seg ?_ rfl, h.fr.trans fr, h.hB, Nat.le_trans h.sz hg.size⟩
  intro e
  have h1 := h.seg
  rw [e, h.blk] at h1
  simp at h1
theorem AS.store (h : AS B hb sb w wx hc sc v n bs) (o : Nat) (u : Value) : AS B hb sb w (wx.setCell ⟨hb, o, none⟩ u) (hc.setIfInBounds o u) sc v n bs := by
  have hne : ∀ {k : Nat} {cs : Array Value} {t : TypeId}, wx.heap[k]? = some (.cells cs t (0, 0)) → t ≠ 31 → (wx.setCell ⟨hb, o, none⟩ u).heap[k]? = some (.cells cs t (0, 0)) := by
    intro k cs t hk ht
    rw [Below.heap_setCell wx ⟨hb, o, none⟩ u k ?_]
    · exact hk
    · intro e
      have e' : k = hb := e
      subst e'
      rw [h.blk] at hk
      simp at hk
      exact ht hk.2.symm
  refine ⟨by simp [World.setCell, Array.getElem?_modify, h.blk], ?_, hne h.seg (by decide), h.fr.trans (Fr.setCell h.hB o u), h.hB, by simpa [World.setCell] using h.sz⟩
  refine ⟨h.row.1, ?_⟩
  rcases h.row.2 with hn | ⟨g, cap, cur, rfl, hbg, hgg, rest⟩
  · exact .inl hn
  · exact .inr ⟨g, cap, cur, rfl, hbg, hne hgg (by decide), rest⟩
theorem AS.cell (h : AS B hb sb w wx hc sc v n bs) (o : Nat) : wx.cell? ⟨hb, o, none⟩ = hc[o]? := by simp [World.cell?, h.blk]
theorem AS.free (h : AS B hb sb w wx hc sc v n bs) (o : Nat) : wx.frozen? ⟨hb, o, none⟩ = false := by simp [World.frozen?, h.blk]
theorem AS.cellS (h : AS B hb sb w wx hc sc v n bs) (o : Nat) : wx.cell? ⟨sb, o, none⟩ = sc[o]? := by simp [World.cell?, h.seg]
end
end Go.Proofs.Ybulkcmis.Mem
