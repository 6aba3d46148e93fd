/-
  search, at a string key and at a key of bytes.
-/
import Derived.Test.YbulkcmeyBTail
namespace Go.Proofs.Ybulkcmey.B
open Go Go.RowKit

theorem hd_key {ks : List (List UInt8)} {n j : Nat} (h : j < n) : hdAt ks n j = head (keyAt ks j) 0 := by simp [hdAt, h]
theorem hd_le (ks : List (List UInt8)) (n j : Nat) : hdAt ks n j ≤ 4294967295 := by
  unfold hdAt
  split
  · have := head_lt (keyAt ks j) 0; omega
  · omega
theorem keyAt_lt {ks : List (List UInt8)} (hr : Rise ks) {i j : Nat} (hij : i < j) (hj : j < ks.length) : keyAt ks i < keyAt ks j := by
  rw [keyAt_eq (by omega), keyAt_eq hj]; exact hr.lt hij hj
theorem hd_mono {ks : List (List UInt8)} (hr : Rise ks) {i j : Nat} (hij : i ≤ j) : hdAt ks ks.length i ≤ hdAt ks ks.length j := by
  by_cases hj : j < ks.length
  · rw [hd_key hj, hd_key (by omega)]
    by_cases e : i = j
    · rw [e]; exact Nat.le_refl _
    · rcases Nat.lt_or_ge (head (keyAt ks j) 0) (head (keyAt ks i) 0) with h | h
      · exact absurd (lt_of_head h) (lt_asymm (keyAt_lt hr (by omega) hj))
      · exact h
  · have e : hdAt ks ks.length j = 4294967295 := by simp [hdAt, hj]
    rw [e]; exact hd_le _ _ _

theorem drewN_add (w : World) (a b : Nat) : (w.drewN a).drewN b = w.drewN (a + b) := by simp [World.drewN, Nat.add_assoc]

/-- The first head that is not less lies in lo .. lo + left. -/
def Lo (ks : List (List UInt8)) (h lo left : Nat) : Prop := lo + left ≤ 31 ∧ (∀ j, j < lo → hdAt ks ks.length j < h) ∧ ∀ j, lo + left ≤ j → j < 31 → h ≤ hdAt ks ks.length j

theorem lo_up {ks : List (List UInt8)} (hr : Rise ks) {h lo left : Nat} (hl : Lo ks h lo left) (h1 : 1 < left) (hb : hdAt ks ks.length (lo + left / 2) < h) : Lo ks h (lo + left / 2) (left - left / 2) := by
  refine ⟨by have := hl.1; omega, ?_, ?_⟩
  · intro j hj
    exact Nat.lt_of_le_of_lt (hd_mono hr (by omega)) hb
  · intro j hj hj2
    exact hl.2.2 j (by omega) hj2
theorem lo_down {ks : List (List UInt8)} (hr : Rise ks) {h lo left : Nat} (hl : Lo ks h lo left) (h1 : 1 < left) (hb : ¬ hdAt ks ks.length (lo + left / 2) < h) : Lo ks h lo (left - left / 2) := by
  refine ⟨by have := hl.1; omega, hl.2.1, ?_⟩
  intro j hj hj2
  exact Nat.le_trans (Nat.not_lt.1 hb) (hd_mono hr (by omega))

/-- lo is the first head that is not less. -/
def At (ks : List (List UInt8)) (h lo : Nat) : Prop := lo ≤ ks.length ∧ (∀ j, j < lo → hdAt ks ks.length j < h) ∧ ∀ j, lo ≤ j → j < 31 → h ≤ hdAt ks ks.length j

theorem at_le {ks : List (List UInt8)} {h lo : Nat} (hh : h < 4294967296) (h1 : ∀ j, j < lo → hdAt ks ks.length j < h) : lo ≤ ks.length := by
  rcases Nat.lt_or_ge ks.length lo with hc | hc
  · have := h1 ks.length hc
    have e : hdAt ks ks.length ks.length = 4294967295 := by simp [hdAt]
    omega
  · exact hc
theorem at_up {ks : List (List UInt8)} (hr : Rise ks) {h lo : Nat} (hh : h < 4294967296) (hl : Lo ks h lo 1) (hb : hdAt ks ks.length lo < h) : At ks h (lo + 1) := by
  have h1 : ∀ j, j < lo + 1 → hdAt ks ks.length j < h := fun j hj => Nat.lt_of_le_of_lt (hd_mono hr (by omega)) hb
  exact ⟨at_le hh h1, h1, hl.2.2⟩
theorem at_stay {ks : List (List UInt8)} (hr : Rise ks) {h lo : Nat} (hh : h < 4294967296) (hl : Lo ks h lo 1) (hb : ¬ hdAt ks ks.length lo < h) : At ks h lo :=
  ⟨at_le hh hl.2.1, hl.2.1, fun _ hj _ => Nat.le_trans (Nat.not_lt.1 hb) (hd_mono hr hj)⟩

/-- What search tells. -/
def Found (ks : List (List UInt8)) (q : List UInt8) (i : Nat) (f : Bool) : Prop :=
  i ≤ ks.length ∧ (∀ j, j < i → keyAt ks j < q) ∧ (f = true → i < ks.length ∧ keyAt ks i = q) ∧ (f = false → ∀ j, i ≤ j → j < ks.length → q < keyAt ks j)

/-- .. as a call's end. -/
def Tuple (ks : List (List UInt8)) (q : List UInt8) (w : World) (e : Ending) (w' : World) : Prop := ∃ (i : Nat) (f : Bool), e = .returned (.tuple #[.int .i64 (i : Nat), .bool f]) ∧ Found ks q i f ∧ ∃ m, w' = w.drewN m

/-- The items with the key's head are lo .. en. -/
def Ends (ks : List (List UInt8)) (h lo en : Nat) : Prop := lo ≤ en ∧ en ≤ ks.length ∧ ∀ j, lo ≤ j → j < en → hdAt ks ks.length j = h

/-- The keys before lo are less, those from hi on greater. -/
def Mid (ks : List (List UInt8)) (q : List UInt8) (lo hi : Nat) : Prop := (∀ j, j < lo → keyAt ks j < q) ∧ ∀ j, hi ≤ j → j < ks.length → q < keyAt ks j

theorem mid_of {ks : List (List UInt8)} (hr : Rise ks) {q : List UInt8} {lo en : Nat} (hn : ks.length ≤ 31) (ha : At ks (head q 0) lo) (he : Ends ks (head q 0) lo en) (hs : en < ks.length → hdAt ks ks.length en ≠ head q 0) : Mid ks q lo en := by
  constructor
  · intro j hj
    have h1 := ha.2.1 j hj
    rw [hd_key (by have := ha.1; omega)] at h1
    exact lt_of_head h1
  · intro j hj hjn
    have h1 : head q 0 ≤ hdAt ks ks.length en := ha.2.2 en he.1 (by omega)
    have h2 := hs (by omega)
    have h3 := hd_mono hr hj
    rw [hd_key hjn] at h3
    exact lt_of_head (by omega)
theorem found_not {ks : List (List UInt8)} {q : List UInt8} {lo hi : Nat} (hm : Mid ks q lo hi) (h : hi ≤ lo) (hle : lo ≤ ks.length) : Found ks q lo false :=
  ⟨hle, hm.1, by simp, fun _ j hj hjn => hm.2 j (by omega) hjn⟩
theorem found_at {ks : List (List UInt8)} (hr : Rise ks) {q : List UInt8} {mid : Nat} (h : mid < ks.length) (he : keyAt ks mid = q) : Found ks q mid true :=
  ⟨by omega, fun j hj => by rw [← he]; exact keyAt_lt hr hj h, fun _ => ⟨h, he⟩, by simp⟩
theorem mid_up {ks : List (List UInt8)} (hr : Rise ks) {q : List UInt8} {lo hi mid : Nat} (hm : Mid ks q lo hi) (h : mid < ks.length) (hl : keyAt ks mid < q) : Mid ks q (mid + 1) hi :=
  ⟨fun j hj => by
    by_cases e : j = mid
    · rw [e]; exact hl
    · exact lt_trans (keyAt_lt hr (by omega) h) hl, hm.2⟩
theorem mid_down {ks : List (List UInt8)} (hr : Rise ks) {q : List UInt8} {lo hi mid : Nat} (hm : Mid ks q lo hi) (hl : q < keyAt ks mid) : Mid ks q lo mid :=
  ⟨hm.1, fun j hj hjn => by
    by_cases e : j = mid
    · rw [e]; exact hl
    · exact lt_trans hl (keyAt_lt hr (by omega) hjn)⟩

set_option maxHeartbeats 4000000 in
set_option maxRecDepth 100000 in
theorem searchS (hb g cap : Nat) (pl : List UInt8) (ks : List (List UInt8)) (key : ByteArray) (q : List UInt8) (w : World) (h : NodeAt w hb g cap pl ks) (hn : ks.length ≤ 31) (hp : posAt pl ks ks.length ≤ 63488) (hpl : pl.length ≤ 1024) (hr : Rise ks)
    (hk : key.toList = pl ++ q) :
    Calls Yba.prog 21 #[.pointer (some ⟨hb, 0, none⟩), .string key] w fun e w' => Tuple ks q w e w' := by
  have HN : Hid (NodeAt w hb g cap pl ks) := h
  have HR : Hid (Rise ks) := hr
  have HK : Hid (key.toList = pl ++ q) := hk
  have c1 := h.plen
  have e0 : head key.toList pl.length = head q 0 := by rw [hk]; exact head_append0 _ _
  have e4 : head key.toList (pl.length + 4) = head q 4 := by rw [hk]; exact head_append _ _ 4
  have hlt := head_lt q 0
  obtain ⟨hd, hhd⟩ : ∃ hd, head q 0 = hd := ⟨_, rfl⟩
  rw [hhd] at e0 hlt
  have HHD : Hid (head q 0 = hd) := hhd
  have E4 : Hid (head key.toList (pl.length + 4) = head q 4) := e4
  clear h hk hr hhd e4
  go_enter Yba.func21, Yba.ntmps21
  go_wp2_with fail
  refine (headSz key pl.length _ rfl (by omega) _).mono ?_
  rintro e w1 ⟨rfl, m1, hw1⟩
  have HN1 : Hid (NodeAt w1 hb g cap pl ks) := by rw [hw1]; exact HN.out.drewN m1
  have HW1 : Hid (w1 = w.drewN m1) := hw1
  rw [e0]
  clear hw1 c1 e0 HN
  go_upto_block 0 with fail
  go_cut [7] (fun lv wx => ∃ lo : Nat, lv = .int .i64 (lo : Nat) ∧ Lo ks hd lo 1 ∧ wx = w1)
  case first =>
    go_wp2_with fail
    go_loopg [7, 8] 31 (fun gk lv nv wr => ∃ lo left : Nat, left = gk ∧ lv = .int .i64 (lo : Nat) ∧ nv = .int .i64 (left : Nat) ∧ 1 ≤ left ∧ Lo ks hd lo left ∧ wr = w1)
    case atStart => exact ⟨0, 31, rfl, rfl, rfl, by omega, ⟨by omega, fun j hj => by omega, fun j hj hj2 => by omega⟩, rfl⟩
    case round =>
      obtain ⟨lo, left, hgk, rfl, rfl, hl1, hLo, rfl⟩ := hrel
      have HG : Hid (left = gk) := hgk
      have HL : Hid (Lo ks hd lo left) := hLo
      have hb31 := hLo.1
      clear hgk hLo
      by_cases h1 : 1 < left
      · have hI : (1 : Int) < (left : Int) := by omega
        have hc := HN1.out.heads (lo + left / 2) (by omega)
        have hle := hd_le ks ks.length (lo + left / 2)
        have HLU : Hid (_ → _) := lo_up HR.out HL.out h1
        have HLD : Hid (_ → _) := lo_down HR.out HL.out h1
        obtain ⟨x, hx⟩ : ∃ x, hdAt ks ks.length (lo + left / 2) = x := ⟨_, rfl⟩
        rw [hx] at hc hle HLU HLD
        clear hx
        by_cases hxl : x < hd
        · have hbv : belowOf x hd = 1 := by simp [belowOf, hxl]
          go_wp2_with fail
          refine (below x hd (by omega) hlt _).mono ?_
          rintro e w2 ⟨rfl, rfl⟩
          go_wp2
          go_roundg (left - left / 2)
          case measure => have := HG.out; omega
          case rel => exact ⟨lo + left / 2, left - left / 2, rfl, by go_num, by go_num, by omega, HLU.out hxl, rfl⟩
        · have hbv : belowOf x hd = 0 := by simp [belowOf, hxl]
          go_wp2_with fail
          refine (below x hd (by omega) hlt _).mono ?_
          rintro e w2 ⟨rfl, rfl⟩
          go_wp2
          go_roundg (left - left / 2)
          case measure => have := HG.out; omega
          case rel => exact ⟨lo, left - left / 2, rfl, by go_num, by go_num, by omega, HLD.out hxl, rfl⟩
      · have hI : ¬ (1 : Int) < (left : Int) := by omega
        have he : left = 1 := by omega
        have HL1 : Hid (Lo ks hd lo 1) := by have := HL.out; rw [he] at this; exact this
        clear he
        go_wp2_with fail
        go_meet
        exact ⟨lo, rfl, HL1.out, rfl⟩
  case rest =>
    obtain ⟨lo, rfl, hLo, rfl⟩ := hcut
    have HL : Hid (Lo ks hd lo 1) := hLo
    have hb31 := hLo.1
    clear hLo
    have hc := HN1.out.heads lo (by omega)
    have hle := hd_le ks ks.length lo
    have HA1 : Hid (_ → _) := at_up HR.out hlt HL.out
    have HA0 : Hid (_ → _) := at_stay HR.out hlt HL.out
    obtain ⟨x, hx⟩ : ∃ x, hdAt ks ks.length lo = x := ⟨_, rfl⟩
    rw [hx] at hc hle HA1 HA0
    clear hx
    go_upto_region 7 with fail
    go_cut [7] (fun lv wx => ∃ lo : Nat, lv = .int .i64 (lo : Nat) ∧ At ks hd lo ∧ wx = wc)
    case first =>
      by_cases hxl : x < hd
      · have hbv : belowOf x hd = 1 := by simp [belowOf, hxl]
        go_wp2_with fail
        refine (below x hd (by omega) hlt _).mono ?_
        rintro e w2 ⟨rfl, rfl⟩
        go_wp2_with fail
        go_meet
        exact ⟨lo + 1, by go_num, HA1.out hxl, rfl⟩
      · have hbv : belowOf x hd = 0 := by simp [belowOf, hxl]
        go_wp2_with fail
        refine (below x hd (by omega) hlt _).mono ?_
        rintro e w2 ⟨rfl, rfl⟩
        go_wp2_with fail
        go_meet
        exact ⟨lo, by go_num, HA0.out hxl, rfl⟩
    case rest =>
      obtain ⟨lo2, rfl, hAt, rfl⟩ := hcut
      have HA : Hid (At ks hd lo2) := hAt
      have hlo := hAt.1
      clear hAt HA0 HA1 hc hle hb31 HL
      go_wp2_with fail
      refine (sizeOf hb g cap pl ks _ HN1.out hn).mono ?_
      rintro e w2 ⟨rfl, rfl⟩
      go_upto_block 2 with fail
      go_cut [10] (fun ev wx => ∃ en : Nat, ev = .int .i64 (en : Nat) ∧ Ends ks hd lo2 en ∧ (en < ks.length → hdAt ks ks.length en ≠ hd) ∧ wx = w2)
      case first =>
        go_wp2_with fail
        go_loopg [10] (ks.length - lo2) (fun gk ev wr => ∃ en : Nat, gk = ks.length - en ∧ ev = .int .i64 (en : Nat) ∧ Ends ks hd lo2 en ∧ wr = w2)
        case atStart => exact ⟨lo2, rfl, rfl, ⟨Nat.le_refl _, hlo, fun j h1 h2 => by omega⟩, rfl⟩
        case round =>
          obtain ⟨en, hgk, rfl, hEn, rfl⟩ := hrel
          have HG : Hid (gk = ks.length - en) := hgk
          have HE : Hid (Ends ks hd lo2 en) := hEn
          have hen := hEn.2.1
          clear hgk hEn
          by_cases h1 : en < ks.length
          · have hI : (en : Int) < (ks.length : Int) := by omega
            have hc := HN1.out.heads en (by omega)
            obtain ⟨x, hx⟩ : ∃ x, hdAt ks ks.length en = x := ⟨_, rfl⟩
            rw [hx] at hc
            have HX : Hid (hdAt ks ks.length en = x) := hx
            clear hx
            by_cases hxe : x = hd
            · have hxe' : ((x : Int) == (hd : Int)) = true := by simp [hxe]
              have HXE : Hid (x = hd) := hxe
              clear hxe
              go_wp2
              go_roundg (gk - 1)
              case measure => have := HG.out; omega
              case rel =>
                refine ⟨en + 1, by have := HG.out; omega, by go_num, ⟨by have := HE.out.1; omega, by omega, ?_⟩, rfl⟩
                intro j hj1 hj2
                by_cases e : j = en
                · rw [e, HX.out, HXE.out]
                · exact HE.out.2.2 j hj1 (by omega)
            · have hxe' : ((x : Int) == (hd : Int)) = false := by simp; omega
              have HXE : Hid (¬ x = hd) := hxe
              clear hxe
              go_wp2_with fail
              go_meet
              exact ⟨en, rfl, HE.out, fun _ => by rw [HX.out]; exact HXE.out, rfl⟩
          · have hI : ¬ (en : Int) < (ks.length : Int) := by omega
            go_wp2_with fail
            go_meet
            exact ⟨en, rfl, HE.out, fun h => absurd h h1, rfl⟩
      case rest =>
        obtain ⟨en, rfl, hEn, hst, rfl⟩ := hcut
        have HE : Hid (Ends ks hd lo2 en) := hEn
        have HM : Hid (Mid ks q lo2 en) := by
          have h1 := HHD.out
          have h2 := HA.out
          rw [← h1] at h2 hEn hst
          exact mid_of HR.out hn h2 hEn hst
        have hle1 := hEn.1
        have hen := hEn.2.1
        clear hEn hst
        by_cases hee : lo2 = en
        · have hee' : ((lo2 : Int) == (en : Int)) = true := by simp [hee]
          have HEE : Hid (lo2 = en) := hee
          clear hee
          go_wp2
          go_ret2
          exact ⟨lo2, false, rfl, found_not HM.out (by have := HEE.out; omega) hlo, m1, HW1.out⟩
        · have hee' : ((lo2 : Int) == (en : Int)) = false := by simp; omega
          have c1 := HN1.out.plen
          go_wp2_with fail
          refine (headSz key (pl.length + 4) _ (by omega) (by omega) _).mono ?_
          rintro e w4 ⟨rfl, m4, hw4⟩
          have HN4 : Hid (NodeAt w4 hb g cap pl ks) := by rw [hw4]; exact HN1.out.drewN m4
          have HW4 : Hid (∃ m, w4 = w.drewN m) := ⟨m1 + m4, by rw [hw4, HW1.out]; exact drewN_add w m1 m4⟩
          rw [E4.out]
          clear hw4 c1 HN1 HW1
          go_wp2_with fail
          go_loopg [7, 12] (en - lo2) (fun gk lv hv wr => ∃ lo hi m : Nat, gk = hi - lo ∧ lv = .int .i64 (lo : Nat) ∧ hv = .int .i64 (hi : Nat) ∧ lo2 ≤ lo ∧ lo ≤ hi ∧ hi ≤ en ∧ Mid ks q lo hi ∧ wr = w4.drewN m)
          case atStart => exact ⟨lo2, en, 0, rfl, rfl, rfl, Nat.le_refl _, hle1, Nat.le_refl _, HM.out, rfl⟩
          case round =>
            obtain ⟨lo, hi, m, hgk, rfl, rfl, hl1, hl2, hl3, hmid, hwr⟩ := hrel
            have HG : Hid (gk = hi - lo) := hgk
            have HMM : Hid (Mid ks q lo hi) := hmid
            have HN5 : Hid (NodeAt wr hb g cap pl ks) := by rw [hwr]; exact HN4.out.drewN m
            have HW5 : Hid (wr = w4.drewN m) := hwr
            clear hgk hmid hwr
            by_cases h1 : lo < hi
            · have hI : (lo : Int) < (hi : Int) := by omega
              obtain ⟨mid, hmi⟩ : ∃ mid, (lo + hi) / 2 = mid := ⟨_, rfl⟩
              have hm1 : lo ≤ mid := by omega
              have hm2 : mid < hi := by omega
              have hdv : ((lo : Int) + (hi : Int)) / 2 = (mid : Int) := by omega
              have hhm : Hid (head (keyAt ks mid) 0 = head q 0) := by
                show head (keyAt ks mid) 0 = head q 0
                rw [HHD.out, ← HE.out.2.2 mid (by omega) (by omega), hd_key (by omega)]
              clear hmi
              go_wp2_with fail
              refine (compareS hb g cap mid pl ks key q _ HN5.out (by omega) hn hp hpl HK.out hhm.out).mono ?_
              rintro e w6 ⟨c, rfl, ht, m6, hw6⟩
              have HW6 : Hid (w6 = w4.drewN (m + m6)) := by rw [hw6, HW5.out]; exact drewN_add w4 m m6
              have ht' := ht
              obtain ⟨t1, t2, t3, t4, t5⟩ := ht
              have T1 : Hid (c < 0 → keyAt ks mid < q) := t1
              have T2 : Hid (c = 0 → keyAt ks mid = q) := t2
              have T3 : Hid (0 < c → q < keyAt ks mid) := t3
              clear ht' hw6 t1 t2 t3
              rcases (show c = -1 ∨ c = 0 ∨ c = 1 from by omega) with rfl | rfl | rfl
              · have K1 : Hid (keyAt ks mid < q) := T1.out (by omega)
                go_wp2
                go_roundg (hi - (mid + 1))
                case measure => have := HG.out; omega
                case rel => exact ⟨mid + 1, hi, m + m6, rfl, by go_num, rfl, by omega, by omega, hl3, mid_up HR.out HMM.out (by omega) K1.out, HW6.out⟩
              · have K2 : Hid (keyAt ks mid = q) := T2.out rfl
                go_wp2
                go_ret2
                obtain ⟨m5, hm5⟩ := HW4.out
                exact ⟨mid, true, rfl, found_at HR.out (by omega) K2.out, m5 + (m + m6), by rw [HW6.out, hm5]; exact drewN_add w m5 _⟩
              · have K3 : Hid (q < keyAt ks mid) := T3.out (by omega)
                go_wp2
                go_roundg (mid - lo)
                case measure => have := HG.out; omega
                case rel => exact ⟨lo, mid, m + m6, rfl, rfl, by go_num, hl1, hm1, by omega, mid_down HR.out HMM.out K3.out, HW6.out⟩
            · have hI : ¬ (lo : Int) < (hi : Int) := by omega
              go_wp2
              go_ret2
              obtain ⟨m5, hm5⟩ := HW4.out
              exact ⟨lo, false, rfl, found_not HMM.out (by omega) (by omega), m5 + m, by rw [HW5.out, hm5]; exact drewN_add w m5 m⟩

theorem headBz (g n c : Nat) (l : List UInt8) (o : Nat) (z : Int) (hz : z = (o : Nat)) (ho : o ≤ 100000) (w : World) (hl : LiesB w g n l) (hnc : n ≤ c) :
    Calls Yba.prog 37 #[.slice (some ⟨g, 0, none⟩) n c, .int .i64 z] w fun e w' => e = .returned (.int .u32 (head l o : Nat)) ∧ ∃ m, w' = w.drewN m := by
  subst hz
  exact headB g n c l o ho w hl hnc

set_option maxHeartbeats 4000000 in
set_option maxRecDepth 100000 in
theorem searchB (hb g cap : Nat) (pl : List UInt8) (ks : List (List UInt8)) (gq nk ck : Nat) (q : List UInt8) (w : World) (h : NodeAt w hb g cap pl ks) (hn : ks.length ≤ 31) (hp : posAt pl ks ks.length ≤ 63488) (hpl : pl.length ≤ 1024) (hr : Rise ks)
    (hk : LiesB w gq nk (pl ++ q)) (hck : nk ≤ ck) :
    Calls Yba.prog 22 #[.pointer (some ⟨hb, 0, none⟩), .slice (some ⟨gq, 0, none⟩) nk ck] w fun e w' => Tuple ks q w e w' := by
  have HN : Hid (NodeAt w hb g cap pl ks) := h
  have HR : Hid (Rise ks) := hr
  have HK : Hid (LiesB w gq nk (pl ++ q)) := hk
  have c1 := h.plen
  have e0 : head (pl ++ q) pl.length = head q 0 := by exact head_append0 _ _
  have e4 : head (pl ++ q) (pl.length + 4) = head q 4 := by exact head_append _ _ 4
  have hlt := head_lt q 0
  obtain ⟨hd, hhd⟩ : ∃ hd, head q 0 = hd := ⟨_, rfl⟩
  rw [hhd] at e0 hlt
  have HHD : Hid (head q 0 = hd) := hhd
  have E4 : Hid (head (pl ++ q) (pl.length + 4) = head q 4) := e4
  clear h hk hr hhd e4
  go_enter Yba.func22, Yba.ntmps22
  go_wp2_with fail
  refine (headBz gq nk ck (pl ++ q) pl.length _ rfl (by omega) _ HK.out hck).mono ?_
  rintro e w1 ⟨rfl, m1, hw1⟩
  have HN1 : Hid (NodeAt w1 hb g cap pl ks) := by rw [hw1]; exact HN.out.drewN m1
  have HW1 : Hid (w1 = w.drewN m1) := hw1
  rw [e0]
  have HK1 : Hid (LiesB w1 gq nk (pl ++ q)) := by rw [hw1]; exact HK.out
  clear hw1 c1 e0 HN HK
  go_upto_block 0 with fail
  go_cut [7] (fun lv wx => ∃ lo : Nat, lv = .int .i64 (lo : Nat) ∧ Lo ks hd lo 1 ∧ wx = w1)
  case first =>
    go_wp2_with fail
    go_loopg [7, 8] 31 (fun gk lv nv wr => ∃ lo left : Nat, left = gk ∧ lv = .int .i64 (lo : Nat) ∧ nv = .int .i64 (left : Nat) ∧ 1 ≤ left ∧ Lo ks hd lo left ∧ wr = w1)
    case atStart => exact ⟨0, 31, rfl, rfl, rfl, by omega, ⟨by omega, fun j hj => by omega, fun j hj hj2 => by omega⟩, rfl⟩
    case round =>
      obtain ⟨lo, left, hgk, rfl, rfl, hl1, hLo, rfl⟩ := hrel
      have HG : Hid (left = gk) := hgk
      have HL : Hid (Lo ks hd lo left) := hLo
      have hb31 := hLo.1
      clear hgk hLo
      by_cases h1 : 1 < left
      · have hI : (1 : Int) < (left : Int) := by omega
        have hc := HN1.out.heads (lo + left / 2) (by omega)
        have hle := hd_le ks ks.length (lo + left / 2)
        have HLU : Hid (_ → _) := lo_up HR.out HL.out h1
        have HLD : Hid (_ → _) := lo_down HR.out HL.out h1
        obtain ⟨x, hx⟩ : ∃ x, hdAt ks ks.length (lo + left / 2) = x := ⟨_, rfl⟩
        rw [hx] at hc hle HLU HLD
        clear hx
        by_cases hxl : x < hd
        · have hbv : belowOf x hd = 1 := by simp [belowOf, hxl]
          go_wp2_with fail
          refine (below x hd (by omega) hlt _).mono ?_
          rintro e w2 ⟨rfl, rfl⟩
          go_wp2
          go_roundg (left - left / 2)
          case measure => have := HG.out; omega
          case rel => exact ⟨lo + left / 2, left - left / 2, rfl, by go_num, by go_num, by omega, HLU.out hxl, rfl⟩
        · have hbv : belowOf x hd = 0 := by simp [belowOf, hxl]
          go_wp2_with fail
          refine (below x hd (by omega) hlt _).mono ?_
          rintro e w2 ⟨rfl, rfl⟩
          go_wp2
          go_roundg (left - left / 2)
          case measure => have := HG.out; omega
          case rel => exact ⟨lo, left - left / 2, rfl, by go_num, by go_num, by omega, HLD.out hxl, rfl⟩
      · have hI : ¬ (1 : Int) < (left : Int) := by omega
        have he : left = 1 := by omega
        have HL1 : Hid (Lo ks hd lo 1) := by have := HL.out; rw [he] at this; exact this
        clear he
        go_wp2_with fail
        go_meet
        exact ⟨lo, rfl, HL1.out, rfl⟩
  case rest =>
    obtain ⟨lo, rfl, hLo, rfl⟩ := hcut
    have HL : Hid (Lo ks hd lo 1) := hLo
    have hb31 := hLo.1
    clear hLo
    have hc := HN1.out.heads lo (by omega)
    have hle := hd_le ks ks.length lo
    have HA1 : Hid (_ → _) := at_up HR.out hlt HL.out
    have HA0 : Hid (_ → _) := at_stay HR.out hlt HL.out
    obtain ⟨x, hx⟩ : ∃ x, hdAt ks ks.length lo = x := ⟨_, rfl⟩
    rw [hx] at hc hle HA1 HA0
    clear hx
    go_upto_region 7 with fail
    go_cut [7] (fun lv wx => ∃ lo : Nat, lv = .int .i64 (lo : Nat) ∧ At ks hd lo ∧ wx = wc)
    case first =>
      by_cases hxl : x < hd
      · have hbv : belowOf x hd = 1 := by simp [belowOf, hxl]
        go_wp2_with fail
        refine (below x hd (by omega) hlt _).mono ?_
        rintro e w2 ⟨rfl, rfl⟩
        go_wp2_with fail
        go_meet
        exact ⟨lo + 1, by go_num, HA1.out hxl, rfl⟩
      · have hbv : belowOf x hd = 0 := by simp [belowOf, hxl]
        go_wp2_with fail
        refine (below x hd (by omega) hlt _).mono ?_
        rintro e w2 ⟨rfl, rfl⟩
        go_wp2_with fail
        go_meet
        exact ⟨lo, by go_num, HA0.out hxl, rfl⟩
    case rest =>
      obtain ⟨lo2, rfl, hAt, rfl⟩ := hcut
      have HA : Hid (At ks hd lo2) := hAt
      have hlo := hAt.1
      clear hAt HA0 HA1 hc hle hb31 HL
      go_wp2_with fail
      refine (sizeOf hb g cap pl ks _ HN1.out hn).mono ?_
      rintro e w2 ⟨rfl, rfl⟩
      go_upto_block 2 with fail
      go_cut [10] (fun ev wx => ∃ en : Nat, ev = .int .i64 (en : Nat) ∧ Ends ks hd lo2 en ∧ (en < ks.length → hdAt ks ks.length en ≠ hd) ∧ wx = w2)
      case first =>
        go_wp2_with fail
        go_loopg [10] (ks.length - lo2) (fun gk ev wr => ∃ en : Nat, gk = ks.length - en ∧ ev = .int .i64 (en : Nat) ∧ Ends ks hd lo2 en ∧ wr = w2)
        case atStart => exact ⟨lo2, rfl, rfl, ⟨Nat.le_refl _, hlo, fun j h1 h2 => by omega⟩, rfl⟩
        case round =>
          obtain ⟨en, hgk, rfl, hEn, rfl⟩ := hrel
          have HG : Hid (gk = ks.length - en) := hgk
          have HE : Hid (Ends ks hd lo2 en) := hEn
          have hen := hEn.2.1
          clear hgk hEn
          by_cases h1 : en < ks.length
          · have hI : (en : Int) < (ks.length : Int) := by omega
            have hc := HN1.out.heads en (by omega)
            obtain ⟨x, hx⟩ : ∃ x, hdAt ks ks.length en = x := ⟨_, rfl⟩
            rw [hx] at hc
            have HX : Hid (hdAt ks ks.length en = x) := hx
            clear hx
            by_cases hxe : x = hd
            · have hxe' : ((x : Int) == (hd : Int)) = true := by simp [hxe]
              have HXE : Hid (x = hd) := hxe
              clear hxe
              go_wp2
              go_roundg (gk - 1)
              case measure => have := HG.out; omega
              case rel =>
                refine ⟨en + 1, by have := HG.out; omega, by go_num, ⟨by have := HE.out.1; omega, by omega, ?_⟩, rfl⟩
                intro j hj1 hj2
                by_cases e : j = en
                · rw [e, HX.out, HXE.out]
                · exact HE.out.2.2 j hj1 (by omega)
            · have hxe' : ((x : Int) == (hd : Int)) = false := by simp; omega
              have HXE : Hid (¬ x = hd) := hxe
              clear hxe
              go_wp2_with fail
              go_meet
              exact ⟨en, rfl, HE.out, fun _ => by rw [HX.out]; exact HXE.out, rfl⟩
          · have hI : ¬ (en : Int) < (ks.length : Int) := by omega
            go_wp2_with fail
            go_meet
            exact ⟨en, rfl, HE.out, fun h => absurd h h1, rfl⟩
      case rest =>
        obtain ⟨en, rfl, hEn, hst, rfl⟩ := hcut
        have HE : Hid (Ends ks hd lo2 en) := hEn
        have HM : Hid (Mid ks q lo2 en) := by
          have h1 := HHD.out
          have h2 := HA.out
          rw [← h1] at h2 hEn hst
          exact mid_of HR.out hn h2 hEn hst
        have hle1 := hEn.1
        have hen := hEn.2.1
        clear hEn hst
        by_cases hee : lo2 = en
        · have hee' : ((lo2 : Int) == (en : Int)) = true := by simp [hee]
          have HEE : Hid (lo2 = en) := hee
          clear hee
          go_wp2
          go_ret2
          exact ⟨lo2, false, rfl, found_not HM.out (by have := HEE.out; omega) hlo, m1, HW1.out⟩
        · have hee' : ((lo2 : Int) == (en : Int)) = false := by simp; omega
          have c1 := HN1.out.plen
          go_wp2_with fail
          refine (headBz gq nk ck (pl ++ q) (pl.length + 4) _ (by omega) (by omega) _ HK1.out hck).mono ?_
          rintro e w4 ⟨rfl, m4, hw4⟩
          have HN4 : Hid (NodeAt w4 hb g cap pl ks) := by rw [hw4]; exact HN1.out.drewN m4
          have HW4 : Hid (∃ m, w4 = w.drewN m) := ⟨m1 + m4, by rw [hw4, HW1.out]; exact drewN_add w m1 m4⟩
          have HK4 : Hid (LiesB w4 gq nk (pl ++ q)) := by rw [hw4]; exact HK1.out
          rw [E4.out]
          clear hw4 c1 HN1 HW1 HK1
          go_wp2_with fail
          go_loopg [7, 12] (en - lo2) (fun gk lv hv wr => ∃ lo hi m : Nat, gk = hi - lo ∧ lv = .int .i64 (lo : Nat) ∧ hv = .int .i64 (hi : Nat) ∧ lo2 ≤ lo ∧ lo ≤ hi ∧ hi ≤ en ∧ Mid ks q lo hi ∧ wr = w4.drewN m)
          case atStart => exact ⟨lo2, en, 0, rfl, rfl, rfl, Nat.le_refl _, hle1, Nat.le_refl _, HM.out, rfl⟩
          case round =>
            obtain ⟨lo, hi, m, hgk, rfl, rfl, hl1, hl2, hl3, hmid, hwr⟩ := hrel
            have HG : Hid (gk = hi - lo) := hgk
            have HMM : Hid (Mid ks q lo hi) := hmid
            have HN5 : Hid (NodeAt wr hb g cap pl ks) := by rw [hwr]; exact HN4.out.drewN m
            have HK5 : Hid (LiesB wr gq nk (pl ++ q)) := by rw [hwr]; exact HK4.out
            have HW5 : Hid (wr = w4.drewN m) := hwr
            clear hgk hmid hwr
            by_cases h1 : lo < hi
            · have hI : (lo : Int) < (hi : Int) := by omega
              obtain ⟨mid, hmi⟩ : ∃ mid, (lo + hi) / 2 = mid := ⟨_, rfl⟩
              have hm1 : lo ≤ mid := by omega
              have hm2 : mid < hi := by omega
              have hdv : ((lo : Int) + (hi : Int)) / 2 = (mid : Int) := by omega
              have hhm : Hid (head (keyAt ks mid) 0 = head q 0) := by
                show head (keyAt ks mid) 0 = head q 0
                rw [HHD.out, ← HE.out.2.2 mid (by omega) (by omega), hd_key (by omega)]
              clear hmi
              go_wp2_with fail
              refine (compareB hb g cap mid pl ks gq nk ck q _ HN5.out (by omega) hn hp hpl HK5.out hhm.out).mono ?_
              rintro e w6 ⟨c, rfl, ht, m6, hw6⟩
              have HW6 : Hid (w6 = w4.drewN (m + m6)) := by rw [hw6, HW5.out]; exact drewN_add w4 m m6
              have ht' := ht
              obtain ⟨t1, t2, t3, t4, t5⟩ := ht
              have T1 : Hid (c < 0 → keyAt ks mid < q) := t1
              have T2 : Hid (c = 0 → keyAt ks mid = q) := t2
              have T3 : Hid (0 < c → q < keyAt ks mid) := t3
              clear ht' hw6 t1 t2 t3
              rcases (show c = -1 ∨ c = 0 ∨ c = 1 from by omega) with rfl | rfl | rfl
              · have K1 : Hid (keyAt ks mid < q) := T1.out (by omega)
                go_wp2
                go_roundg (hi - (mid + 1))
                case measure => have := HG.out; omega
                case rel => exact ⟨mid + 1, hi, m + m6, rfl, by go_num, rfl, by omega, by omega, hl3, mid_up HR.out HMM.out (by omega) K1.out, HW6.out⟩
              · have K2 : Hid (keyAt ks mid = q) := T2.out rfl
                go_wp2
                go_ret2
                obtain ⟨m5, hm5⟩ := HW4.out
                exact ⟨mid, true, rfl, found_at HR.out (by omega) K2.out, m5 + (m + m6), by rw [HW6.out, hm5]; exact drewN_add w m5 _⟩
              · have K3 : Hid (q < keyAt ks mid) := T3.out (by omega)
                go_wp2
                go_roundg (mid - lo)
                case measure => have := HG.out; omega
                case rel => exact ⟨lo, mid, m + m6, rfl, rfl, by go_num, hl1, hm1, by omega, mid_down HR.out HMM.out K3.out, HW6.out⟩
            · have hI : ¬ (lo : Int) < (hi : Int) := by omega
              go_wp2
              go_ret2
              obtain ⟨m5, hm5⟩ := HW4.out
              exact ⟨lo, false, rfl, found_not HMM.out (by omega) (by omega), m5 + m, by rw [HW5.out, hm5]; exact drewN_add w m5 m⟩
end Go.Proofs.Ybulkcmey.B
