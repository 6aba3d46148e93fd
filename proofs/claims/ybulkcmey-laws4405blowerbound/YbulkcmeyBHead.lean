/-
  below, size, headOf, cmp.Compare at this program.
-/
import Derived.Test.YbulkcmeyBPlain
import Derived.Test.YbulkcmeyShelf
import Derived.WalkKit
import Derived.OwnWalk
import Derived.Lib.AppendStr
import Derived.Lib.Walk
import Derived.Deep.Draws
import Derived.Deep.LoopGhost
import Derived.Deep.QuietTactic
import Derived.BigQuiet
import Derived.IntWalk
import Derived.Laws.BitsAllLaws
import Derived.Laws.Strings2
import Derived.Laws.Cover1
import Derived.Laws.Concat
import Derived.RegionTactic
import Derived.BigRegion
import Derived.Deep.RegionWith
import Derived.Deep.DeepCutAuto
import Derived.Deep.CutBlock
namespace Go.Proofs.Ybulkcmey.B
open Go Go.RowKit

/-- 1 where a is less than b, else 0. -/
def belowOf (a b : Nat) : Nat := if a < b then 1 else 0

set_option maxHeartbeats 2000000 in
theorem below (a b : Nat) (ha : a < 4294967296) (hb : b < 4294967296) (w : World) :
    Calls Yba.prog 34 #[.int .u32 (a : Nat), .int .u32 (b : Nat)] w fun e w' => e = .returned (.int .i64 (belowOf a b : Nat)) ∧ w' = w := by
  have h1 : IntKind.u64.wrap ((a : Int) - (b : Int)) / 9223372036854775808 = (belowOf a b : Int) := by
    have e : IntKind.u64.wrap ((a : Int) - (b : Int)) = ((a : Int) - (b : Int)) % 18446744073709551616 := by simp [IntKind.wrap]; rfl
    rw [e]
    unfold belowOf
    split <;> omega
  have h2 : (belowOf a b : Int) < 2 := by unfold belowOf; split <;> decide
  go_enter Yba.func34, Yba.ntmps34
  go_wp2
  go_ret
  exact ⟨rfl, rfl⟩

set_option maxHeartbeats 2000000 in
theorem compare32 (a b : Nat) (w : World) :
    Calls Yba.prog 42 #[.int .u32 (a : Nat), .int .u32 (b : Nat)] w fun e w' => e = .returned (.int .i64 (Lib.compareInt a b)) ∧ w' = w := by
  rcases Nat.lt_trichotomy a b with h | h | h
  · have h1 : (a : Int) < (b : Int) := by omega
    go_enter Yba.func42, Yba.ntmps42
    go_wp2
    all_goals
      go_ret
      exact ⟨by simp [Lib.compareInt, h1], rfl⟩
  · subst h
    have h1 : ¬ (a : Int) < (a : Int) := by omega
    go_enter Yba.func42, Yba.ntmps42
    go_wp2
    all_goals
      go_ret
      exact ⟨by simp [Lib.compareInt], rfl⟩
  · have h1 : ¬ (a : Int) < (b : Int) := by omega
    have h2 : (b : Int) < (a : Int) := by omega
    go_enter Yba.func42, Yba.ntmps42
    go_wp2
    all_goals
      go_ret
      exact ⟨by simp [Lib.compareInt, h2]; omega, rfl⟩

theorem or_add (j x y : Nat) (hx : x % 2 ^ j = 0) (hy : y < 2 ^ j) (h1 : x < 4294967296) (h2 : y < 4294967296) : bits .or .u32 (x : Int) (y : Int) = ((x + y : Nat) : Int) := by
  rw [u32_or_nat x y h1 h2]
  have e : x = 2 ^ j * (x / 2 ^ j) := by have := Nat.div_add_mod x (2 ^ j); omega
  rw [e, ← Nat.two_pow_add_eq_or_of_lt hy, ← e]

theorem or_head (a b c d : Nat) (ha : a < 256) (hb : b < 256) (hc : c < 256) (hd : d < 256) :
    bits .or .u32 (bits .or .u32 (bits .or .u32 ((a : Int) * 16777216) ((b : Int) * 65536)) ((c : Int) * 256)) (d : Int) = ((a * 16777216 + b * 65536 + c * 256 + d : Nat) : Int) := by
  have e1 : bits .or .u32 ((a : Int) * 16777216) ((b : Int) * 65536) = ((a * 16777216 + b * 65536 : Nat) : Int) := or_add 24 (a * 16777216) (b * 65536) (by omega) (by omega) (by omega) (by omega)
  have e2 : bits .or .u32 ((a * 16777216 + b * 65536 : Nat) : Int) ((c : Int) * 256) = ((a * 16777216 + b * 65536 + c * 256 : Nat) : Int) := or_add 16 (a * 16777216 + b * 65536) (c * 256) (by omega) (by omega) (by omega) (by omega)
  have e3 : bits .or .u32 ((a * 16777216 + b * 65536 + c * 256 : Nat) : Int) (d : Int) = ((a * 16777216 + b * 65536 + c * 256 + d : Nat) : Int) := or_add 8 (a * 16777216 + b * 65536 + c * 256) d (by omega) (by omega) (by omega) (by omega)
  rw [e1, e2, e3]

/-- The number that the loop has built behind n rounds. -/
def hv (k : List UInt8) (o : Nat) : Nat → Nat
  | 0 => 0
  | n + 1 => hv k o n * 256 + byte k (o + n)
theorem hv_lt (k : List UInt8) (o : Nat) : ∀ n, hv k o n < 256 ^ n
  | 0 => by simp [hv]
  | n + 1 => by have h1 := hv_lt k o n; have h2 := byte_lt k (o + n); rw [hv, Nat.pow_succ]; omega
theorem hv_four (k : List UInt8) (o : Nat) : hv k o 4 = head k o := by simp only [hv, head, Nat.add_zero]; omega
theorem byte_past (k : List UInt8) (i : Nat) (h : k.length ≤ i) : byte k i = 0 := by simp [byte, List.getD_eq_getElem?_getD, h]
theorem hv_or (k : List UInt8) (o n : Nat) (hn : n < 4) : bits .or .u32 ((hv k o n : Int) * 256) (byte k (o + n) : Int) = (hv k o (n + 1) : Int) ∧ hv k o n < 16777216 := by
  have h1 := hv_lt k o n
  have h2 := byte_lt k (o + n)
  have h3 : hv k o n < 16777216 := by
    refine Nat.lt_of_lt_of_le h1 ?_
    exact Nat.pow_le_pow_right (n := 256) (by omega) (show n ≤ 3 by omega)
  exact ⟨or_add 8 (hv k o n * 256) (byte k (o + n)) (by omega) (by omega) (by omega) (by omega), h3⟩

theorem byte_get (s : ByteArray) (i : Nat) (h : i < s.size) : (s[i]'h).toNat = byte s.toList i := by
  have e : s.toList = s.data.toList := by rw [ByteArray.toList_eq]
  have h' : i < s.data.size := h
  rw [byte, e, List.getD_eq_getElem?_getD, List.getElem?_eq_getElem (by simpa using h')]
  rfl
theorem len_toList (s : ByteArray) : s.toList.length = s.size := by
  rw [ByteArray.toList_eq]; rfl

theorem extract_get (s : ByteArray) (o j : Nat) (h : o + 4 ≤ s.size) (hj : j < 4) (hx : j < (s.extract o (o + 4)).size) : ((s.extract o (o + 4))[j]'hx).toNat = byte s.toList (o + j) := by
  rw [← byte_get s (o + j) (by omega)]
  congr 1
  simp [ByteArray.getElem_extract]

set_option maxHeartbeats 2000000 in
set_option maxRecDepth 100000 in
theorem headS (s : ByteArray) (o : Nat) (ho : o ≤ 100000) (w : World) :
    Calls Yba.prog 33 #[.string s, .int .i64 (o : Nat)] w fun e w' => e = .returned (.int .u32 (head s.toList o : Nat)) ∧ ∃ m, w' = w.drewN m := by
  by_cases hc : (o : Int) + 4 ≤ (s.size : Int)
  · have hx : (s.extract o (o + 4)).size = 4 := by rw [ByteArray.size_extract]; omega
    have x0 := extract_get s o 0 (by omega) (by omega) (by omega)
    have x1 := extract_get s o 1 (by omega) (by omega) (by omega)
    have x2 := extract_get s o 2 (by omega) (by omega) (by omega)
    have x3 := extract_get s o 3 (by omega) (by omega) (by omega)
    have b0 : (byte s.toList o : Int) < 256 := by have := byte_lt s.toList o; omega
    have b1 : (byte s.toList (o + 1) : Int) < 256 := by have := byte_lt s.toList (o + 1); omega
    have b2 : (byte s.toList (o + 2) : Int) < 256 := by have := byte_lt s.toList (o + 2); omega
    have b3 : (byte s.toList (o + 3) : Int) < 256 := by have := byte_lt s.toList (o + 3); omega
    have hoo : (o : Int) ≤ (o : Int) + 4 := by omega
    have hot : ((o : Int) + 4).toNat = o + 4 := by omega
    go_enter Yba.func33, Yba.ntmps33
    go_upto_region 3 with fail
    go_quiet (fail)
    go_wp2
    go_ret
    refine ⟨?_, nq, rfl⟩
    have e := or_head _ _ _ _ (byte_lt s.toList o) (byte_lt s.toList (o + 1)) (byte_lt s.toList (o + 2)) (byte_lt s.toList (o + 3))
    exact congrArg (fun z => Ending.returned (Value.int .u32 z)) e
  · go_enter Yba.func33, Yba.ntmps33
    go_upto_block 0 with fail
    go_cut [6, 7] (fun h _ wx => h = .int .u32 (head s.toList o : Nat) ∧ wx = w)
    case first =>
      go_wp2_with fail
      go_loopg [6, 7] 4 (fun gk h iv wr => ∃ n j H : Nat, n + gk = 4 ∧ j = o + n ∧ H = hv s.toList o n ∧ h = .int .u32 (H : Nat) ∧ iv = .int .i64 (j : Nat) ∧ wr = w)
      case atStart => exact ⟨0, o, 0, by omega, by omega, rfl, rfl, rfl, rfl⟩
      case round =>
        obtain ⟨n, j, H, hn, hj, hH, rfl, rfl, rfl⟩ := hrel
        have HN : Hid (n + gk = 4) := hn
        have HJ : Hid (j = o + n) := hj
        have HH : Hid (H = hv s.toList o n) := hH
        by_cases hlt : n < 4
        · obtain ⟨e1, e2⟩ := hv_or s.toList o n hlt
          rw [← hH] at e1 e2
          rw [← hj] at e1
          have E1 : Hid (_ = _) := e1
          have e2 : (H : Int) < 16777216 := by omega
          have hI : (j : Int) < (o : Int) + 4 := by omega
          have hJ : j ≤ 100004 := by omega
          clear hn hj hH e1
          by_cases hin : j < s.size
          · have hin' : (j : Int) < (s.size : Int) := by omega
            have hg := byte_get s j hin
            have hb : (byte s.toList j : Int) < 256 := by have := byte_lt s.toList j; omega
            go_wp2
            go_roundg (gk - 1)
            case measure => have := HN.out; omega
            case rel => exact ⟨n + 1, j + 1, hv s.toList o (n + 1), by have := HN.out; omega, by have := HJ.out; omega, rfl, by rw [← E1.out], by go_num, rfl⟩
          · have hin' : ¬ (j : Int) < (s.size : Int) := by omega
            have hb : byte s.toList j = 0 := byte_past _ _ (by rw [len_toList]; omega)
            go_wp2
            go_roundg (gk - 1)
            case measure => have := HN.out; omega
            case rel => exact ⟨n + 1, j + 1, hv s.toList o (n + 1), by have := HN.out; omega, by have := HJ.out; omega, rfl, by rw [hv, ← HH.out, ← HJ.out, hb]; rfl, by go_num, rfl⟩
        · have hn4 : n = 4 := by omega
          have hI : ¬ (j : Int) < (o : Int) + 4 := by omega
          have hJ : j ≤ 100004 := by omega
          have HV : Hid (H = head s.toList o) := by rw [hH, hn4]; exact hv_four _ _
          clear hn hj hH hn4
          go_wp2_with fail
          go_meet
          exact ⟨by rw [HV.out], rfl⟩
    case rest =>
      obtain ⟨rfl, rfl⟩ := hcut
      go_wp2
      go_ret
      exact ⟨rfl, 0, rfl⟩

/-- A slice of bytes that lies at block g from 0 on. -/
def LiesB (w : World) (g n : Nat) (l : List UInt8) : Prop := l.length = n ∧ ∀ j, j < n → w.cell? ⟨g, j, none⟩ = some (.int .u8 (byte l j : Nat))

set_option maxHeartbeats 2000000 in
set_option maxRecDepth 100000 in
theorem headB (g n c : Nat) (l : List UInt8) (o : Nat) (ho : o ≤ 100000) (w : World) (hl : LiesB w g n l) (hnc : n ≤ c) :
    Calls Yba.prog 37 #[.slice (some ⟨g, 0, none⟩) n c, .int .i64 (o : Nat)] w fun e w' => e = .returned (.int .u32 (head l o : Nat)) ∧ ∃ m, w' = w.drewN m := by
  by_cases hc : (o : Int) + 4 ≤ (n : Int)
  · have x0 := hl.2 o (by omega)
    have x1 := hl.2 (o + 1) (by omega)
    have x2 := hl.2 (o + 2) (by omega)
    have x3 := hl.2 (o + 3) (by omega)
    have b0 : (byte l o : Int) < 256 := by have := byte_lt l o; omega
    have b1 : (byte l (o + 1) : Int) < 256 := by have := byte_lt l (o + 1); omega
    have b2 : (byte l (o + 2) : Int) < 256 := by have := byte_lt l (o + 2); omega
    have b3 : (byte l (o + 3) : Int) < 256 := by have := byte_lt l (o + 3); omega
    have hoo : (o : Int) ≤ (o : Int) + 4 := by omega
    have hot : ((o : Int) + 4).toNat = o + 4 := by omega
    have hcc : (o : Int) + 4 ≤ (c : Int) := by omega
    clear hl
    go_enter Yba.func37, Yba.ntmps37
    go_upto_region 3 with fail
    go_quiet (fail)
    go_wp2
    go_ret
    refine ⟨?_, nq, rfl⟩
    have e := or_head _ _ _ _ (byte_lt l o) (byte_lt l (o + 1)) (byte_lt l (o + 2)) (byte_lt l (o + 3))
    exact congrArg (fun z => Ending.returned (Value.int .u32 z)) e
  · have HL : Hid (LiesB w g n l) := hl
    clear hl
    go_enter Yba.func37, Yba.ntmps37
    go_upto_block 0 with fail
    go_cut [6, 7] (fun h _ wx => h = .int .u32 (head l o : Nat) ∧ wx = w)
    case first =>
      go_wp2_with fail
      go_loopg [6, 7] 4 (fun gk h iv wr => ∃ n j H : Nat, n + gk = 4 ∧ j = o + n ∧ H = hv l o n ∧ h = .int .u32 (H : Nat) ∧ iv = .int .i64 (j : Nat) ∧ wr = w)
      case atStart => exact ⟨0, o, 0, by omega, by omega, rfl, rfl, rfl, rfl⟩
      case round =>
        obtain ⟨k, j, H, hn, hj, hH, rfl, rfl, rfl⟩ := hrel
        have HN : Hid (k + gk = 4) := hn
        have HJ : Hid (j = o + k) := hj
        have HH : Hid (H = hv l o k) := hH
        by_cases hlt : k < 4
        · obtain ⟨e1, e2⟩ := hv_or l o k hlt
          rw [← hH] at e1 e2
          rw [← hj] at e1
          have E1 : Hid (_ = _) := e1
          have e2 : (H : Int) < 16777216 := by omega
          have hI : (j : Int) < (o : Int) + 4 := by omega
          have hJ : j ≤ 100004 := by omega
          clear hn hj hH e1
          by_cases hin : j < n
          · have hin' : (j : Int) < (n : Int) := by omega
            have hg := HL.out.2 j hin
            have hb : (byte l j : Int) < 256 := by have := byte_lt l j; omega
            go_wp2
            go_roundg (gk - 1)
            case measure => have := HN.out; omega
            case rel => exact ⟨k + 1, j + 1, hv l o (k + 1), by have := HN.out; omega, by have := HJ.out; omega, rfl, by rw [← E1.out], by go_num, rfl⟩
          · have hin' : ¬ (j : Int) < (n : Int) := by omega
            have hb : byte l j = 0 := byte_past _ _ (by have := HL.out.1; omega)
            go_wp2
            go_roundg (gk - 1)
            case measure => have := HN.out; omega
            case rel => exact ⟨k + 1, j + 1, hv l o (k + 1), by have := HN.out; omega, by have := HJ.out; omega, rfl, by rw [hv, ← HH.out, ← HJ.out, hb]; rfl, by go_num, rfl⟩
        · have hn4 : k = 4 := by omega
          have hI : ¬ (j : Int) < (o : Int) + 4 := by omega
          have hJ : j ≤ 100004 := by omega
          have HV : Hid (H = head l o) := by rw [hH, hn4]; exact hv_four _ _
          clear hn hj hH hn4
          go_wp2_with fail
          go_meet
          exact ⟨by rw [HV.out], rfl⟩
    case rest =>
      obtain ⟨rfl, rfl⟩ := hcut
      go_wp2
      go_ret
      exact ⟨rfl, 0, rfl⟩
end Go.Proofs.Ybulkcmey.B
