/-
  A region whose operations make memory in whatever order: by an invariant. No program in sight.
-/
import Derived.Test.YbulkcmrwSmall
import Derived.Deep.RegionHeld
namespace Go.Proofs.Ybulkcmrw.Inv
open Go

/-- Every operation waits for earlier ones alone. -/
def back (ops : Array Oper) : Bool := (List.range ops.size).all fun i => match ops[i]? with
  | some o => o.after.all (fun e => decide (e.on < i))
  | none => true

theorem back_spec {ops : Array Oper} (h : back ops = true) {i : Nat} {o : Oper} (ho : ops[i]? = some o) : ∀ e ∈ o.after, e.on < i := by
  unfold back at h
  rw [List.all_eq_true] at h
  have h1 := h i (List.mem_range.2 (Array.getElem?_eq_some_iff.1 ho).1)
  rw [ho] at h1
  intro e he
  have h2 := Array.all_eq_true_iff_forall_mem.1 h1 e he
  simpa using h2

theorem all_listed {md : Region.Mode} {ops : Array Oper} {listed : Array Bool} (hb : back ops = true) (hs : listed.size = ops.size) (hr : Region.ready md ops listed = []) : ∀ j, j < ops.size → listed.getD j false = true := by
  intro j
  induction j using Nat.strongRecOn with
  | _ j ih =>
    intro hj
    cases h : listed.getD j false with
    | true => rfl
    | false =>
      exfalso
      have ho : ops[j]? = some ops[j] := Array.getElem?_eq_getElem hj
      have hm : j ∈ Region.ready md ops listed := by
        refine mem_ready.2 ⟨?_, ops[j], ho, fun e he _ => ?_⟩
        · have hl : j < listed.size := by omega
          simp [hl] at h ⊢
          exact h
        · have := back_spec hb ho e he
          exact ih e.on this (by omega)
      rw [hr] at hm
      cases hm

theorem wpAny_inv {P : Program} {md : Region.Mode} {ops : Array Oper} {Q : Exit → Act → World → Prop} (hb : back ops = true) (I : (Nat → Bool) → Act → World → Prop)
    (hstep : ∀ f a w, I f a w → ∀ i o, ops[i]? = some o → f i = false → (∀ e ∈ o.after, Region.binds md e = true → f e.on = true) → wpOp P ops Q i (fun a' w' => I (fun j => if j = i then true else f j) a' w') a w)
    (hend : ∀ f a w, I f a w → (∀ j, j < ops.size → f j = true) → Q .normal a w) :
    ∀ (fuel : Nat) (listed : Array Bool) (a : Act) (w : World), listed.size = ops.size → listed.toList.count false ≤ fuel → I (fun j => listed.getD j false) a w → wpAny P md ops Q fuel listed a w := by
  intro fuel
  induction fuel with
  | zero =>
    intro listed a w hs hc hI
    have hr : Region.ready md ops listed = [] := by
      rw [List.eq_nil_iff_forall_not_mem]
      intro j hj
      obtain ⟨h0, o, ho, _⟩ := mem_ready.1 hj
      have hl : j < listed.size := by rw [hs]; exact (Array.getElem?_eq_some_iff.1 ho).1
      have h1 : listed[j] = false := by simpa [hl] using h0
      have h2 : false ∈ listed.toList := by rw [← h1]; exact Array.getElem_mem_toList hl
      have := List.count_pos_iff.2 h2
      omega
    exact ⟨hr, hend _ a w hI (all_listed hb hs hr)⟩
  | succ fuel ih =>
    intro listed a w hs hc hI
    refine ⟨fun hr => hend _ a w hI (all_listed hb hs hr), fun i hi => ?_⟩
    obtain ⟨h0, o, ho, hall⟩ := mem_ready.1 hi
    have hl : i < listed.size := by rw [hs]; exact (Array.getElem?_eq_some_iff.1 ho).1
    have h1 : listed[i] = false := by simpa [hl] using h0
    refine wpOp_mono (fun a' w' h' => ih _ a' w' (by simp [hs]) ?_ ?_) (hstep _ a w hI i o ho (by simp [hl, h1]) hall)
    · rw [Array.toList_setIfInBounds, List.count_set (by simpa using hl)]
      have e : listed.toList[i]'(by simpa using hl) = false := by simpa using h1
      have h2 : false ∈ listed.toList := by rw [← e]; exact List.getElem_mem _
      have := List.count_pos_iff.2 h2
      rw [e]
      simp only [beq_self_eq_true, if_true, show (true == false) = false from rfl, Bool.false_eq_true, if_false]
      omega
    · have e : (fun j => (listed.setIfInBounds i true).getD j false) = (fun j => if j = i then true else listed.getD j false) := by
        funext j
        by_cases hj : j = i
        · subst hj; simp [hl]
        · rw [getD_set_ne false (Ne.symm hj), if_neg hj]
      rw [e]
      exact h'

/-- The frame is a0's but for the slots D. -/
structure Fr (D : List Nat) (a0 a : Act) : Prop where
  df : a.defers = a0.defers
  sz : a.tmps.size = a0.tmps.size
  eq : ∀ d, d ∉ D → a.tmps[d]? = a0.tmps[d]?

theorem Fr.refl (D : List Nat) (a0 : Act) : Fr D a0 a0 := ⟨rfl, rfl, fun _ _ => rfl⟩
theorem Fr.put {D : List Nat} {a0 a : Act} (h : Fr D a0 a) {d : Nat} (hd : d ∈ D) (v : Value) : Fr D a0 (a.put (some d) v) :=
  ⟨h.df, by simp [Act.put, h.sz], fun e he => by
    have hne : d ≠ e := by rintro rfl; exact he hd
    rw [← h.eq e he]
    simp [Act.put, Array.getElem?_setIfInBounds_ne hne]⟩
theorem Fr.putNone {D : List Nat} {a0 a : Act} (h : Fr D a0 a) (v : Value) : Fr D a0 (a.put none v) := h
theorem Fr.eval {D : List Nat} {a0 a : Act} (h : Fr D a0 a) {d : Nat} (hd : d ∉ D) : a.eval (.tmp d) = a0.eval (.tmp d) := by
  have := h.eq d hd
  simp only [Act.eval, Array.getD_eq_getD_getElem?]
  rw [this]
theorem put_eval {a : Act} {d : Nat} (hd : d < a.tmps.size) (v : Value) : (a.put (some d) v).eval (.tmp d) = v := by
  simp [Act.eval, Act.put, hd]
theorem put_eval_ne {a : Act} {d e : Nat} (h : d ≠ e) (v : Value) : (a.put (some d) v).eval (.tmp e) = a.eval (.tmp e) :=
  Act.eval_put (fun x hx hxe => by simp at hx hxe; exact h (hx.trans hxe.symm))

theorem fold_df (g : Nat → Value) (a0 : Act) : ∀ D : List Nat, (D.foldr (fun d b => b.put (some d) (g d)) a0).defers = a0.defers ∧ (D.foldr (fun d b => b.put (some d) (g d)) a0).tmps.size = a0.tmps.size := by
  intro D
  induction D with
  | nil => exact ⟨rfl, rfl⟩
  | cons d D ih => exact ⟨ih.1, by simpa [Act.put] using ih.2⟩
theorem fold_get (g : Nat → Value) (a0 : Act) : ∀ (D : List Nat) (i : Nat), i < a0.tmps.size → (D.foldr (fun d b => b.put (some d) (g d)) a0).tmps[i]? = if i ∈ D then some (g i) else a0.tmps[i]? := by
  intro D
  induction D with
  | nil => intro i _; simp
  | cons d D ih =>
    intro i hi
    have h1 := ih i hi
    have h2 := (fold_df g a0 D).2
    rw [List.foldr_cons]
    obtain ⟨c, hc⟩ : ∃ c, D.foldr (fun d b => b.put (some d) (g d)) a0 = c := ⟨_, rfl⟩
    rw [hc] at h1 h2 ⊢
    simp only [Act.put]
    by_cases e : d = i
    · subst e
      rw [Array.getElem?_setIfInBounds_self_of_lt (by rw [h2]; exact hi)]
      simp
    · rw [Array.getElem?_setIfInBounds_ne e, h1]
      have : i ∈ d :: D ↔ i ∈ D := by simp [Ne.symm e]
      simp only [this]
/-- The frame, laid out. -/
theorem Fr.out {D : List Nat} {a0 a : Act} (h : Fr D a0 a) : a = D.foldr (fun d b => b.put (some d) (a.eval (.tmp d))) a0 := by
  have hd := fold_df (fun d => a.eval (.tmp d)) a0 D
  have hg := fold_get (fun d => a.eval (.tmp d)) a0 D
  obtain ⟨c, hc⟩ : ∃ c, D.foldr (fun d b => b.put (some d) (a.eval (.tmp d))) a0 = c := ⟨_, rfl⟩
  rw [hc] at hd hg ⊢
  have ht : a.tmps = c.tmps := by
    apply Array.ext_getElem?
    intro i
    by_cases hi : i < a0.tmps.size
    · rw [hg i hi]
      have hia : i < a.tmps.size := by rw [h.sz]; exact hi
      split
      · simp [Act.eval, hia]
      · rename_i hn; exact h.eq i hn
    · rw [Array.getElem?_eq_none (by rw [h.sz]; omega), Array.getElem?_eq_none (by rw [hd.2]; omega)]
  have hf : a.defers = c.defers := h.df.trans hd.1.symm
  cases a
  cases c
  simp only at ht hf
  subst ht hf
  rfl
end Go.Proofs.Ybulkcmrw.Inv
