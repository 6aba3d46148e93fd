/-
  LawS4405ACut: the row.
-/
import Derived.Test.YbulkcmeyRows
import Derived.Test.YbulkcmeyLawACut
import Derived.ProofKit
import Derived.OpenShut
import Derived.ShutString
import Derived.ChangeOld
import Derived.Below
import Derived.Deep.Slices
import Derived.Deep.Strs
namespace Go.Proofs.Ybulkcmey.lawS4405ACut
open Go.ChangeShapes Go.WideShapes Go.ChangeAt Go.RowKit
open Go.ChangeMaps (open_string shut_string)
open Go.Proofs.Ybulkcmey.Rec
set_option linter.unusedVariables false

theorem own : ownKnob Yba.prog.godebug = none := by kernel_rfl
theorem laidOut : laidOutB Yba.prog = true := by kernel_rfl
theorem cells28 : Yba.prog.cellsOf 28 = 3 := by kernel_rfl
theorem cells5 : Yba.prog.cellsOf 5 = 1 := by kernel_rfl
theorem cells9 : Yba.prog.cellsOf 9 = 1 := by kernel_rfl
theorem cells26 : Yba.prog.cellsOf 26 = 1 := by kernel_rfl

set_option maxRecDepth 100000 in
/-- What the argument's reading tells: the entries that lie there. -/
theorem opened {H : Type} {enc : TypeId × Value → H} {W : World} {a0 : Option Addr} {len cap : Nat} {d0 : DataW H} {p0 : List MemPlace}
    (h0 : DataW.Trod enc Yba.prog W 0 (fun _ => true) true 22 (.slice a0 len cap) d0 p0) :
    ∃ (b off : Nat) (rs : List Raw), rs.length = len ∧ (0 < rs.length → a0 = some ⟨b, off, none⟩) ∧ Lies W b off rs ∧ (0 < rs.length → b < W.heap.size) ∧ (∀ r ∈ rs, r.size < 4294967296) ∧ len ≤ maxLen := by
  obtain ⟨fuel, hf⟩ := h0
  rcases Go.Deep.open_slice Yba.underlying22 hf with ⟨hcs, _⟩ | ⟨a, len', cap', m, n, D, Pl, hcs, _, hl, hm, hmm, _, hx⟩
  · simp [Value.cells] at hcs
    obtain ⟨rfl, rfl, rfl⟩ := hcs
    exact ⟨0, 0, [], rfl, by simp, by intro i h; simp at h, by simp, by simp, Nat.zero_le _⟩
  · simp [Value.cells] at hcs
    obtain ⟨rfl, rfl, rfl⟩ := hcs
    simp at hmm
    subst hmm
    rw [cells28] at hx
    have each : ∀ i, i < len → ∃ r : Raw, W.cell? (a.add (i * 3)) = some (.int .u8 r.flags.toNat) ∧ W.cell? (a.add (i * 3 + 1)) = some (.string r.key) ∧ W.cell? (a.add (i * 3 + 2)) = some (.int .u32 r.size) ∧ r.size < 4294967296 := by
      intro i hi
      obtain ⟨cs', h1, h2⟩ := hx i (by omega)
      obtain ⟨_, hlen, hcell⟩ := World.cells?_some h1
      obtain ⟨y0, y1, y2, k, _, _, g0, g1, g2⟩ := Go.Deep.trod_struct3 Yba.underlying28 h2
      match cs', hlen with
      | [v0, v1, v2], _ =>
        simp [cells5, cells9, cells26] at g0 g1 g2
        obtain ⟨z0, e0, _, wf0⟩ := DataW.trod_int Yba.underlying5 g0
        obtain ⟨s, e1, _, _⟩ := DataW.trod_string Yba.underlying9 g1
        obtain ⟨z2, e2, _, wf2⟩ := DataW.trod_int Yba.underlying26 g2
        simp at e0 e1 e2
        subst e0 e1 e2
        have r0 := bounds_u8 wf0
        have r2 := bounds_u32 wf2
        have c0 := hcell 0 (by omega)
        have c1 := hcell 1 (by omega)
        have c2 := hcell 2 (by omega)
        rw [Go.Deep.add_add] at c0 c1 c2
        have t0 : (z0.toNat.toUInt8.toNat : Int) = z0 := by
          rw [show z0.toNat.toUInt8.toNat = z0.toNat % 256 from by simp [Nat.toUInt8, UInt8.toNat_ofNat']]
          omega
        refine ⟨⟨z0.toNat.toUInt8, s, z2.toNat⟩, ?_, ?_, ?_, ?_⟩
        · show W.cell? (a.add (i * 3)) = some (.int .u8 (z0.toNat.toUInt8.toNat : Int))
          rw [t0]
          simpa using c0
        · simpa using c1
        · rw [show ((z2.toNat : Nat) : Int) = z2 from by omega]; simpa using c2
        · show z2.toNat < 4294967296
          omega
    by_cases hpos : 0 < len
    · obtain ⟨r0, hr0, _⟩ := each 0 hpos
      obtain ⟨b, off, spot⟩ := a
      have hspot : spot = none := by simpa [Addr.add] using World.cell?_spot hr0
      subst hspot
      have hadd : ∀ k, (⟨b, off, none⟩ : Addr).add k = ⟨b, off + k, none⟩ := fun k => by unfold Addr.add; split <;> simp_all
      obtain ⟨rs, hlen, hrs⟩ : ∃ rs : List Raw, rs.length = len ∧ ∀ i (h : i < rs.length), W.cell? (Addr.add ⟨b, off, none⟩ (i * 3)) = some (.int .u8 rs[i].flags.toNat) ∧ W.cell? (Addr.add ⟨b, off, none⟩ (i * 3 + 1)) = some (.string rs[i].key) ∧ W.cell? (Addr.add ⟨b, off, none⟩ (i * 3 + 2)) = some (.int .u32 rs[i].size) ∧ rs[i].size < 4294967296 := by
        refine ⟨List.ofFn (fun i : Fin len => Classical.choose (each i.1 i.2)), by simp, ?_⟩
        intro i h
        have hi : i < len := by simpa using h
        simpa using Classical.choose_spec (each i hi)
      refine ⟨b, off, rs, hlen, fun _ => rfl, ?_, ?_, ?_, by omega⟩
      · intro i h
        obtain ⟨u0, u1, u2, _⟩ := hrs i h
        rw [hadd] at u0 u1 u2
        exact ⟨u0, by rw [Nat.add_assoc]; exact u1, by rw [Nat.add_assoc]; exact u2⟩
      · intro _
        have := World.block_lt_of_cell? W _ hr0
        rw [hadd] at this
        exact this
      · intro r hr
        obtain ⟨i, h, rfl⟩ := List.getElem_of_mem hr
        exact (hrs i h).2.2.2
    · have : len = 0 := by omega
      subst this
      exact ⟨0, 0, [], rfl, by simp, by intro i h; simp at h, by simp, by simp, Nat.zero_le _⟩

set_option maxRecDepth 100000 in
theorem lifted (os : Os) (started : os.Started) (H : Type) (enc : TypeId × Value → H) :
    ReturnsInHanded {} Yba.checked os 3 .any (Rows.lawS4405ACutSpec.pre6 enc Yba.prog Yba.f3 Rows.lawS4405ACutRow.domain false) (Rows.lawS4405ACutSpec.post enc Yba.prog Yba.f3 false true false false) := by
  refine returnsInHanded_of_change (C := Yba.checked) own started (by kernel_rfl) Yba.func3
    (ChangeSpec.witness6 (enc := enc) (C := Yba.checked) false ⟨#[], #[.slice none 0 0, .int .i32 0, .int .i64 0], []⟩ 8 (by kernel_rfl) (by kernel_rfl) (by kernel_rfl) (by kernel_rfl)) ?_
  intro W base args ds gs before hval0 hW hcnd _
  have hval : ∀ (j : Nat) t v, Yba.f3.params[j]? = some t → args[j]? = some v → Value.okWide Yba.prog W .any base t v := hval0
  have hW' := hW
  obtain ⟨p, q, hA0, hV, rfl, hfz, hnd⟩ := hW
  have hA : DataW.TrodAll enc Yba.prog W 0 (fun _ => true) true Yba.f3.params.toList args.toList ds p := hA0
  rw [Yba.params3] at hA hval
  obtain ⟨v0, vs0, d0, ds0, p0, q0, hargs, rfl, rfl, h0, r0⟩ := trodAll_cons hA
  obtain ⟨v1, vs1, d1, ds1, p1, q1, rfl, rfl, rfl, h1, r1⟩ := trodAll_cons r0
  obtain ⟨v2, vs2, d2, ds2, p2, q2, rfl, rfl, rfl, h2, r2⟩ := trodAll_cons r1
  obtain ⟨rfl, rfl, rfl⟩ := trodAll_nil r2
  obtain rfl : args = #[v0, v1, v2] := by cases args; simp_all
  obtain ⟨rfl, rfl⟩ := trodVars_none hV
  obtain ⟨a0, len0, cap0, rfl⟩ := okWide_slice Yba.underlying22 (hval 0 22 v0 rfl rfl)
  have k0 := h0
  have lt0 : ∀ x ∈ p0, x.block < W.heap.size := by obtain ⟨m, hm⟩ := k0; exact DataW.trod_lt m _ _ _ hm
  obtain ⟨b, off, rs, hlen, hs, hlie, hbw, hsz, hml⟩ := opened h0
  subst hlen
  obtain ⟨a1, rfl, rfl, rfl, w1⟩ := open_int Yba.underlying21 (hval 1 21 v1 rfl rfl) h1
  obtain ⟨a2, rfl, rfl, rfl, w2⟩ := open_int Yba.underlying2 (hval 2 2 v2 rfl rfl) h2
  clear hA0 hval0
  have hr := bounds_i32 w1
  refine (lawACut a0 cap0 b off rs a1 a2 W hs hlie hbw hsz (by omega) (by omega) hml).mono fun e W' ⟨he, bel⟩ => ?_
  subst he
  exact ⟨_, rfl, _, _, _, [], _, [], hW', trodAll_mk1 (shut_bool Yba.underlying4 _), (trodAll_cons_mk (Below.trod laidOut (by kernel_rfl) (of_decide_eq_true (by kernel_rfl)) k0 bel lt0) (trodAll_cons_mk (shut_int Yba.underlying21 w1) (trodAll_cons_mk (shut_int Yba.underlying2 w2) trodAll_mk0))), rfl, bel.frame _, fun h => by cases h⟩

theorem over : Rows.lawS4405ACutRow.holds Yba.pinned (OpenSpec.ofChange Rows.lawS4405ACutSpec) :=
  OpenClaim.holds_of_wide 3 Yba.f3 rfl rfl rfl rfl rfl rfl rfl ⟨rfl, rfl, rfl, rfl, rfl⟩ rfl rfl rfl rfl rfl (by kernel_rfl) Yba.func3 (by kernel_rfl)
    (of_decide_eq_true (by kernel_rfl)) (by unfold Func.isWrapper; first | (rw [if_pos (by decide +kernel)]; kernel_rfl) | (rw [if_neg (by decide +kernel)]; exact ⟨rfl, rfl⟩))
    (fun os started H enc _ => lifted os started H enc)

/-- The statement. -/
theorem proved : Rows.LawS4405ACutSaid := over
#print axioms proved
end Go.Proofs.Ybulkcmey.lawS4405ACut
