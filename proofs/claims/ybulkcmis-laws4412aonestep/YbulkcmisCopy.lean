/-
  copy(b, src), b a row of bytes that the call owns, src as long: the row then holds src's bytes.
-/
import Derived.Test.YbulkcmisMem
import Derived.Laws.CopyOwn
namespace Go.Proofs.Ybulkcmis.Mem
open Go Go.RowKit

theorem wpList_copy_full {P : Program} {w : World} {ops : Array Oper} {rest : List Oper} {o : Oper} {a : Act} {Q : Exit → Act → World → Prop} (hgd : o.guard = none) (d s : Operand) (t : TypeId)
    (ho : o.op = .call { callee := .builtin .copy, args := #[d, s], argTypes := #[t, t] }) (hu : P.underlying t = some (.slice 5)) (hsz : (P.info? 5).map (·.size) = some 1)
    (B g n : Nat) (xs : List Value) (ao : Option Addr) (c : Nat) (bs : List UInt8) (hd : a.eval d = .slice (some ⟨g, 0, none⟩) n n) (hs : a.eval s = .slice ao n c)
    (hown : w.ownsRow B 5 1 (.slice (some ⟨g, 0, none⟩) n n) n xs) (hsrc : BytesAt w ao n bs)
    (h : ∀ w', w'.ownsRow B 5 1 (.slice (some ⟨g, 0, none⟩) n n) n (Lib.byteCells bs) → w.grownBy w' (some g) → wpList P ops Q rest (a.put o.dst (goInt n)) w') : wpList P ops Q (o :: rest) a w := by
  have hxl := hown.1
  by_cases h0 : n = 0
  · subst h0
    have hbs : bs = [] := List.eq_nil_of_length_eq_zero hsrc.1
    have hxs : xs = [] := List.eq_nil_of_length_eq_zero (by omega)
    subst hbs hxs
    exact wpList_copy_nothing hgd d s t t ho 5 hu hsz _ _ 0 0 0 c hd hs rfl (h w hown ⟨rfl, rfl, rfl, Nat.le_refl _, fun _ _ _ => rfl⟩)
  · obtain ⟨ad, rfl⟩ : ∃ ad, ao = some ad := by
      cases ao with
      | none => exact absurd (hsrc.2.1 rfl) h0
      | some ad => exact ⟨ad, rfl⟩
    rcases hown.2 with ⟨hv, _⟩ | ⟨g', c', cur, hv, hbg, hgg, hc, hmx, hcs, htk⟩
    · simp at hv
    · simp at hv
      obtain ⟨rfl, rfl⟩ := hv
      have hlen : (Lib.byteCells bs).length = n := by rw [Lib.byteCells_length, hsrc.1]
      refine wpList_copy_own hgd d s t t ho 5 hu hsz g 0 n n ad n c hd hs cur 5 hgg (Lib.byteCells bs) (by rw [hlen]; simp) (hsrc.2.2 ad rfl) (by omega) (one_bytes bs) ?_
      rw [hlen]
      refine h _ ⟨by rw [hlen]; omega, .inr ⟨g, n, _, rfl, hbg, setRow_heap w g cur _ 5 (0, 0) hgg, Nat.le_refl _, hmx, ?_, ?_⟩⟩ ⟨rfl, rfl, rfl, by simp [World.setRow], fun k hk hne => setRow_other w g k _ (by intro e; subst e; simp at hne)⟩
      · simp [hlen]; omega
      · simp [hlen]
end Go.Proofs.Ybulkcmis.Mem
