/-
  A region that draws its order and only reads, within a round of a range over a function: one walk of the text's order serves every order.
-/
import Derived.Deep.Quiet
import Derived.OrdersIn
import Derived.CallsIn
namespace Go.Proofs.Ybulkcmey.Round
open Go

section
variable {P : Program} {ops : Array Oper} {md : Region.Mode} {C : World → Prop} {l n : Nat}

theorem op_round {o : Oper} {a : Act} {K : Act → Prop} {K' : Act → World → Prop} {Q' : Exit → Act → World → Prop} {w : World} (hnd : ∀ c, o.op ≠ Op.defer c) (hw : C w) (h : ∀ a w', C w' → K a → K' a w')
    (hh : o.quiet P a C K) : o.wpIn (Fence.wide.inRound l) n P a w K' Q' := by
  obtain ⟨v, h1, h2⟩ := hh
  have h3 := h1 w hw
  unfold Oper.quietAt at h3
  unfold Oper.wpIn
  refine ⟨fun _ _ => trivial, ?_⟩
  rw [Oper.semAt_eq _ _ _ hnd]
  generalize (execOp a.eval o).run P w = r at *
  cases r with
  | ok x w' =>
    cases x <;> simp only [Oper.quietUpon] at h3 <;> simp only [Oper.uponIn]
    case value u =>
      obtain ⟨e1, e2⟩ := h3
      rw [e1, e2]
      exact h _ _ hw h2
    case skip =>
      obtain ⟨e1, e2⟩ := h3
      rw [e1, ← e2]
      exact h _ _ hw h2
    case enter f args =>
      obtain ⟨e1, hc⟩ := h3
      rw [e1]
      refine ⟨fun hd => by simp [Fence.inRound, Fence.wide] at hd, ?_⟩
      exact (callsIn_wide.2 hc).mono fun e w'' ⟨he, hw''⟩ => by subst he; exact h _ _ hw'' h2
  | halt x w' => simp only [Oper.quietUpon] at h3

theorem op1_round {i : Nat} {a : Act} {K : Act → Prop} {K' : Act → World → Prop} {Q' : Exit → Act → World → Prop} {w : World} (hnd : ∀ (i : Nat) (o : Oper), ops[i]? = some o → ∀ c, o.op ≠ Op.defer c) (hC : C w) (h : ∀ a w', C w' → K a → K' a w')
    (hh : qOp P ops C i K a) : wpOpIn (Fence.wide.inRound l) n P ops Q' i K' a w := by
  unfold qOp at hh
  unfold wpOpIn
  split
  · rename_i ho; simp only [ho] at hh; exact h _ _ hC hh
  · rename_i o ho
    simp only [ho] at hh
    split
    · rename_i hw; simp only [hw, if_true] at hh; exact op_round (hnd i o ho) hC h hh
    · rename_i hw; simp only [hw] at hh; exact ⟨fun _ _ => trivial, h _ _ hC hh⟩

theorem any_round {Q : Act → Prop} {Q' : Exit → Act → World → Prop} (hnd : ∀ (i : Nat) (o : Oper), ops[i]? = some o → ∀ c, o.op ≠ Op.defer c) (hQ : ∀ a w, C w → Q a → Q' .normal a w) : ∀ (fuel : Nat) (listed : Array Bool) (a : Act) (w : World), C w →
    wpAnyQ P md ops C Q fuel listed a → wpAnyIn (Fence.wide.inRound l) n P md ops Q' fuel listed a w
  | 0, _, _, _, hw, h => ⟨h.1, hQ _ _ hw h.2⟩
  | fuel + 1, _, _, _, hw, h => ⟨fun h0 => hQ _ _ hw (h.1 h0), fun i hi => op1_round hnd hw (fun a' w' hw' => any_round hnd hQ fuel _ a' w' hw') (h.2 i hi)⟩
end

def isDefer : Op → Bool
  | .defer _ => true
  | _ => false

theorem noDefer {ops : List Oper} (h : ops.all (fun o => !isDefer o.op) = true) : ∀ (i : Nat) (o : Oper), ops.toArray[i]? = some o → ∀ c, o.op ≠ Op.defer c := by
  intro i o ho c hc
  have hm : o ∈ ops := by
    have : ops[i]? = some o := by simpa using ho
    exact List.mem_of_getElem? this
  have := List.all_eq_true.1 h o hm
  rw [hc] at this
  simp [isDefer] at this

theorem region_round {P : Program} {id l n : Nat} {Q : Exit → Act → World → Prop} {a : Act} {w : World} {ops : List Oper} (hm : P.follows .mixedOrders = true) (hB : Region.lexB .any ops.toArray = true) (hnd : ops.all (fun o => !isDefer o.op) = true)
    (h : wpQuiet P ops.toArray (fun w' => ∃ n, w' = w.drewN n) (fun a' => ∀ w', (∃ n, w' = w.drewN n) → Q .normal a' w') ops a) : (Code.region id ops.toArray true).wpIn (Fence.wide.inRound l) n P Q a w := by
  simp only [Region.lexB, Bool.and_eq_true] at hB
  refine wpIn_region_any hm (any_round (C := fun w' => ∃ n, w' = w.drewN n) (Q := fun a' => ∀ w', (∃ n, w' = w.drewN n) → Q .normal a' w') (noDefer hnd) (fun _ w' hw' h => h w' hw') _ _ _ _ ⟨1, rfl⟩ ?_)
  have := wpAnyQ_lex (C := fun w' => ∃ n, w' = w.drewN n) (md := .any) hB.1 ops 0 (Array.replicate ops.length false) a (by simp) (by simpa using hB.2) h
  simpa using this
end Go.Proofs.Ybulkcmey.Round
