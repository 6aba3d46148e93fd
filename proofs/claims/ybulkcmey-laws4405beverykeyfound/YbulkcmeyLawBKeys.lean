/-
  LawS4405BEveryKeyFound: the walk.
-/
import Derived.Test.YbulkcmeyBSearch
namespace Go.Proofs.Ybulkcmey.B
open Go Go.RowKit

theorem found_own {ks : List (List UInt8)} (hr : Rise ks) {k i : Nat} {f : Bool} (hk : k < ks.length) (h : Found ks (keyAt ks k) i f) : i = k ∧ f = true := by
  have hf : f = true := by
    cases f with
    | true => rfl
    | false =>
      exfalso
      rcases Nat.lt_or_ge k i with hki | hki
      · exact lt_irrefl _ (h.2.1 k hki)
      · exact lt_irrefl _ (h.2.2.2 rfl k hki hk)
  refine ⟨?_, hf⟩
  obtain ⟨h1, h2⟩ := h.2.2.1 hf
  rcases Nat.lt_trichotomy i k with hik | hik | hik
  · have := keyAt_lt hr hik hk
    rw [h2] at this
    exact absurd this (lt_irrefl _)
  · exact hik
  · exact absurd (h.2.1 k hik) (lt_irrefl _)

set_option maxHeartbeats 4000000 in
set_option maxRecDepth 100000 in
theorem lawKeys (ao : Option Addr) (c : Nat) (ss : List (List UInt8)) (p : ByteArray) (w : World) (hs : StrsAt w ao ss.length ss) (hl : ∀ ad, ao = some ad → 0 < ss.length → ad.block < w.heap.size) (hmx : ss.length ≤ 9223372036854775807) :
    Calls Yba.prog 6 #[.slice ao ss.length c, .string p] w fun e w' => e = .returned (.bool true) ∧ Below w.heap.size w w' := by
  have HS : Hid (StrsAt w ao ss.length ss) := hs
  clear hs
  by_cases h1 : (1024 : Int) < (ss.length : Int)
  · go_enter Yba.func6, Yba.ntmps6
    go_wp2
    go_ret
    exact ⟨rfl, Below.refl _ _⟩
  · by_cases h2 : (1024 : Int) < (p.size : Int)
    · go_enter Yba.func6, Yba.ntmps6
      go_wp2
      go_ret
      exact ⟨rfl, Below.refl _ _⟩
    · have hq1 : ss.length ≤ 1024 := by omega
      have hq2 : p.size ≤ 1024 := by omega
      go_enter Yba.func6, Yba.ntmps6
      go_upto_block 0 with fail
      go_cut [5] (fun _ wx => (∀ s ∈ ss, s.length ≤ 1024) ∧ wx = w)
      case first =>
        go_wp2_with fail
        go_loopg [5] ss.length (fun gk iv wr => ∃ i : Nat, i + gk = ss.length ∧ iv = .int .i64 (i : Nat) ∧ (∀ j (h : j < ss.length), j < i → ss[j].length ≤ 1024) ∧ wr = w)
        case atStart => exact ⟨0, by omega, rfl, fun j h hj => by omega, rfl⟩
        case round =>
          obtain ⟨i, hi, rfl, hj, rfl⟩ := hrel
          have HI : Hid (i + gk = ss.length) := hi
          have HJ : Hid (∀ j (h : j < ss.length), j < i → ss[j].length ≤ 1024) := hj
          clear hj
          by_cases hlt : i < ss.length
          · have hI : (i : Int) < (ss.length : Int) := by omega
            obtain ⟨ad, rfl⟩ : ∃ ad, ao = some ad := by
              cases ao with
              | none => have := HS.out.2.1 rfl; omega
              | some ad => exact ⟨ad, rfl⟩
            have hc : wr.cell? (ad.add i) = some (encStr ss[i]) := HS.out.2.2 ad rfl i _ (by simp [hlt])
            obtain ⟨kb, hkb⟩ : ∃ kb : ByteArray, ByteArray.mk ss[i].toArray = kb := ⟨_, rfl⟩
            have hc' : wr.cell? (ad.add i) = some (.string kb) := by rw [← hkb]; exact hc
            have hks : kb.size = ss[i].length := by rw [← hkb]; rfl
            have HKS : Hid (kb.size = ss[i].length) := hks
            clear hi hc hkb hks
            by_cases hbig : (1024 : Int) < (kb.size : Int)
            · go_wp2
              go_ret
              exact ⟨rfl, Below.refl _ _⟩
            · go_wp2
              go_roundg (gk - 1)
              case measure => have := HI.out; omega
              case rel =>
                refine ⟨i + 1, by have := HI.out; omega, by go_num, ?_, rfl⟩
                intro j hj hji
                by_cases e : j = i
                · subst e; have := HKS.out; omega
                · exact HJ.out j hj (by omega)
          · have hI : ¬ (i : Int) < (ss.length : Int) := by omega
            go_wp2_with fail
            go_meet
            refine ⟨?_, rfl⟩
            intro s hs
            obtain ⟨j, hj, rfl⟩ := List.mem_iff_getElem.1 hs
            exact HJ.out j hj (by omega)
      case rest =>
        obtain ⟨hall, rfl⟩ := hcut
        have HALL : Hid (∀ s ∈ keysOf ss, s.length ≤ 1024) := keysOf_len ss hall
        have hkn := keysOf_le ss
        have HR : Hid (Rise (keysOf ss)) := rise_keysOf ss
        clear hall
        go_wp2_with fail
        refine (keys ao c ss _ HS.out hl hq1).mono ?_
        rintro e w2 ⟨g0, c0, rfl, hg0, hb2, hcell⟩
        have HC : Hid (∀ i (h : i < (keysOf ss).length), w2.cell? ⟨g0, i, none⟩ = some (encStr (keysOf ss)[i])) := hcell
        clear hcell
        generalize keysOf ss = ks at *
        go_wp2_with fail
        refine (build p g0 c0 ks w2 hq2 HALL.out hkn hg0 HC.out).mono ?_
        rintro e w3 ⟨hb, g, cap, rfl, hnode, hb3⟩
        have HN : Hid (NodeAt w3 hb g cap p.toList ks) := hnode
        have hz2 : wc.heap.size ≤ w2.heap.size := hb2.size
        have HB3 : Hid (Below wc.heap.size wc w3) := hb2.trans (hb3.mono hz2)
        have HC3 : Hid (∀ i (h : i < ks.length), w3.cell? ⟨g0, i, none⟩ = some (encStr ks[i])) := fun i h => (hb3.cell (p := ⟨g0, i, none⟩) hg0).trans (HC.out i h)
        have hpl : p.toList.length ≤ 1024 := by rw [len_toList]; exact hq2
        have hps : posAt p.toList ks ks.length ≤ 63488 := by
          have := posAt_le (ks := ks) hpl HALL.out ks.length (Nat.le_refl _)
          omega
        clear HC hnode hb3 hb2 hg0
        go_wp2_with fail
        go_loopg [8] ks.length (fun gk iv wr => ∃ k m : Nat, k + gk = ks.length ∧ iv = .int .i64 (k : Nat) ∧ wr = w3.drewN m)
        case atStart => exact ⟨0, 0, by omega, rfl, rfl⟩
        case round =>
          obtain ⟨k, m, hk, rfl, rfl⟩ := hrel
          have HK : Hid (k + gk = ks.length) := hk
          by_cases hlt : k < ks.length
          · have hI : (k : Int) < (ks.length : Int) := by omega
            obtain ⟨kb, hkb⟩ : ∃ kb : ByteArray, ByteArray.mk ks[k].toArray = kb := ⟨_, rfl⟩
            have hc : w3.cell? ⟨g0, k, none⟩ = some (.string kb) := by rw [← hkb]; exact HC3.out k hlt
            have hkl : kb.size ≤ 1024 := by rw [← hkb]; exact HALL.out _ (List.getElem_mem hlt)
            have hft : Hid ((p ++ kb).toList = p.toList ++ keyAt ks k) := by show (p ++ kb).toList = _; rw [append_toList, ← hkb, mk_toList ks[k], keyAt_eq hlt]
            have hsum : ¬ p.size + kb.size > 9223372036854775807 := by omega
            clear hk hkb
            go_wp2_with fail
            refine (searchS hb g cap p.toList ks (p ++ kb) (keyAt ks k) _ (HN.out.drewN m) hkn hps hpl HR.out hft.out).mono ?_
            rintro e w4 ⟨i, f, rfl, hfound, m4, rfl⟩
            obtain ⟨rfl, rfl⟩ := found_own HR.out hlt hfound
            have hx : ((i : Int) != (i : Int)) = false := by simp
            clear hfound
            go_wp2
            go_roundg (gk - 1)
            case measure => have := HK.out; omega
            case rel => exact ⟨i + 1, m + m4, by have := HK.out; omega, by go_num, rfl⟩
          · have hI : ¬ (k : Int) < (ks.length : Int) := by omega
            go_wp2
            go_ret
            exact ⟨rfl, HB3.out.trans ⟨rfl, rfl, rfl, Nat.le_refl _, fun _ _ => rfl⟩⟩
end Go.Proofs.Ybulkcmey.B
