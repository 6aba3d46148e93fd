/-
  The bytes of a sequence of segment descriptions. No Go in sight.
-/
import Derived.Test.YbulkcmisAdd
namespace Go.Proofs.Ybulkcmis.Bytes
open Go Go.RowKit Go.Proofs.Ybulkcmis.Mem

/-- A segment as it came in. -/
structure Seg where
  o : Int
  l : Int
  ha : Option Addr
  hm : Nat
  hc : Nat
  hod : List UInt8
  sa : Option Addr
  sm : Nat
  sc : Nat
  sec : List UInt8

def dsc (s : Seg) : List UInt8 := Lib.beBytes 4 (low32 s.l) ++ s.hod ++ s.sec
def dscs (ss : List Seg) (i : Nat) : List UInt8 := (ss.take i).flatMap dsc
def room : List UInt8 := List.replicate 31 0
def outB (D : List UInt8) : List UInt8 := room ++ (0 :: (Lib.beBytes 4 (low32 (D.length : Int)) ++ D))
def bytesAt (ss : List Seg) (i : Nat) : List UInt8 := if i = 0 then room else outB (dscs ss i)
def chunkAt (i : Nat) : Nat := if i = 0 then 0 else 31
def segO (ss : List Seg) (i : Nat) : Int := (ss.map (·.o)).getD i 0
def segL (ss : List Seg) (i : Nat) : Int := (ss.map (·.l)).getD i 0
def stAt (ss : List Seg) (i : Nat) : Int := if i = 0 then 0 else segO ss 0
def lsAt (ss : List Seg) (i : Nat) : Int := if i = 0 then 0 else segO ss (i - 1)
def enAt (ss : List Seg) (i : Nat) : Int := if i = 0 then 0 else wrap64 (segO ss (i - 1) + segL ss (i - 1))

theorem room_length : room.length = 31 := by simp [room]
theorem outB_length (D : List UInt8) : (outB D).length = 36 + D.length := by simp [outB, room_length, Lib.beBytes_length]; omega

theorem dscs_succ {ss : List Seg} {i : Nat} (h : i < ss.length) : dscs ss (i + 1) = dscs ss i ++ dsc ss[i] := by
  rw [dscs, dscs, List.take_succ_eq_append_getElem h, List.flatMap_append]
  simp

theorem dsc_length (s : Seg) : (dsc s).length = 4 + s.hod.length + s.sec.length := by simp [dsc, Lib.beBytes_length]; omega

theorem put_mid (H A Z d : List UInt8) (hH : H.length = 31) (hA : A.length = 4) : putOf (H ++ (0 :: (A ++ Z)) ++ d) 31 = H ++ (0 :: (Lib.beBytes 4 (low32 ((Z ++ d).length : Int)) ++ (Z ++ d))) := by
  have e1 : H ++ (0 :: (A ++ Z)) ++ d = (H ++ [0]) ++ (A ++ (Z ++ d)) := by simp
  rw [e1]
  have hl : (H ++ [0]).length = 32 := by simp [hH]
  unfold putOf
  rw [List.take_left' (by simp [hH])]
  have e2 : ((H ++ [0]) ++ (A ++ (Z ++ d))).drop (31 + 1 + 4) = Z ++ d := by
    rw [show (H ++ [0]) ++ (A ++ (Z ++ d)) = ((H ++ [0]) ++ A) ++ (Z ++ d) from by simp]
    rw [List.drop_left' (by simp [hH, hA])]
  rw [e2]
  have e3 : (((H ++ [0]) ++ (A ++ (Z ++ d))).length : Int) - ((31 : Nat) : Int) - 5 = ((Z ++ d).length : Int) := by
    simp only [List.length_append, hA, hH, List.length_singleton]; omega
  rw [e3]
  simp

theorem bytes_first (ss : List Seg) (h : 0 < ss.length) : putOf (laidOf true (bytesAt ss 0) ss[0].l ss[0].hod ss[0].sec) (atOf true (bytesAt ss 0) (chunkAt 0)) = bytesAt ss 1 ∧ (laidOf true (bytesAt ss 0) ss[0].l ss[0].hod ss[0].sec).length = (bytesAt ss 1).length ∧ atOf true (bytesAt ss 0) (chunkAt 0) = chunkAt 1 := by
  have hb : bytesAt ss 0 = room := rfl
  have hd : dscs ss 1 = dsc ss[0] := by have := dscs_succ (ss := ss) (i := 0) h; simpa [dscs] using this
  have h1 : bytesAt ss 1 = outB (dsc ss[0]) := by simp [bytesAt, hd]
  have hl : laidOf true room ss[0].l ss[0].hod ss[0].sec = room ++ (0 :: (([0, 0, 0, 0] : List UInt8) ++ [])) ++ dsc ss[0] := by simp [laidOf, openOf, dsc]
  refine ⟨?_, ?_, ?_⟩
  · rw [hb, h1, hl]
    show putOf _ (atOf true room (chunkAt 0)) = _
    rw [show atOf true room (chunkAt 0) = 31 from by simp [atOf, room_length]]
    rw [put_mid room [0, 0, 0, 0] [] (dsc ss[0]) room_length rfl]
    simp [outB]
  · rw [hb, hl, h1, outB_length]; simp [room_length]; omega
  · rw [hb]; simp [atOf, room_length, chunkAt]

theorem bytes_next (ss : List Seg) {i : Nat} (h0 : 0 < i) (h : i < ss.length) : putOf (laidOf false (bytesAt ss i) ss[i].l ss[i].hod ss[i].sec) (atOf false (bytesAt ss i) (chunkAt i)) = bytesAt ss (i + 1) ∧ (laidOf false (bytesAt ss i) ss[i].l ss[i].hod ss[i].sec).length = (bytesAt ss (i + 1)).length ∧ atOf false (bytesAt ss i) (chunkAt i) = chunkAt (i + 1) := by
  have hi : ¬ i = 0 := by omega
  have hb : bytesAt ss i = outB (dscs ss i) := by simp [bytesAt, hi]
  have h1 : bytesAt ss (i + 1) = outB (dscs ss i ++ dsc ss[i]) := by simp [bytesAt, dscs_succ h]
  have hl : laidOf false (outB (dscs ss i)) ss[i].l ss[i].hod ss[i].sec = room ++ (0 :: (Lib.beBytes 4 (low32 ((dscs ss i).length : Int)) ++ dscs ss i)) ++ dsc ss[i] := by simp [laidOf, openOf, dsc, outB]
  refine ⟨?_, ?_, ?_⟩
  · rw [hb, h1, hl]
    rw [show atOf false (outB (dscs ss i)) (chunkAt i) = 31 from by simp [atOf, chunkAt, hi]]
    rw [put_mid room _ (dscs ss i) (dsc ss[i]) room_length (by simp [Lib.beBytes_length])]
    rfl
  · rw [hb, hl, h1, outB_length]; simp [room_length, Lib.beBytes_length]; omega
  · simp [atOf, chunkAt, hi]

theorem segO_at {ss : List Seg} {i : Nat} (h : i < ss.length) : segO ss i = ss[i].o := by simp [segO, List.getD, List.getElem?_eq_getElem h]
theorem segL_at {ss : List Seg} {i : Nat} (h : i < ss.length) : segL ss i = ss[i].l := by simp [segL, List.getD, List.getElem?_eq_getElem h]

theorem st_step {ss : List Seg} {i : Nat} (h : i < ss.length) : startOf (i : Int) ss[i].o (stAt ss i) = stAt ss (i + 1) ∧ ss[i].o = lsAt ss (i + 1) ∧ wrap64 (ss[i].o + ss[i].l) = enAt ss (i + 1) := by
  refine ⟨?_, ?_, ?_⟩
  · by_cases hz : i = 0
    · subst hz; simp [startOf, stAt, segO_at h]
    · simp [startOf, stAt, hz]
  · simp [lsAt, segO_at h]
  · simp [enAt, segO_at h, segL_at h]

theorem dscs_le {ss : List Seg} (hsm : ∀ s ∈ ss, s.hod.length ≤ 1024 ∧ s.sec.length ≤ 1024) (i : Nat) : (dscs ss i).length ≤ ss.length * 2052 := by
  have key : ∀ (l : List Seg), (∀ s ∈ l, s.hod.length ≤ 1024 ∧ s.sec.length ≤ 1024) → (l.flatMap dsc).length ≤ l.length * 2052 := by
    intro l
    induction l with
    | nil => simp
    | cons a r ih =>
      intro hl
      have h1 := hl a (List.mem_cons_self ..)
      have h2 := ih (fun s hs => hl s (List.mem_cons_of_mem _ hs))
      have h3 := dsc_length a
      simp only [List.flatMap_cons, List.length_append, List.length_cons]
      omega
  have h1 := key (ss.take i) (fun s hs => hsm s (List.mem_of_mem_take hs))
  have h2 : (ss.take i).length ≤ ss.length := List.length_take_le' _ _
  have h3 : (ss.take i).length * 2052 ≤ ss.length * 2052 := Nat.mul_le_mul_right _ h2
  exact Nat.le_trans h1 h3

theorem bytes_le {ss : List Seg} (hsm : ∀ s ∈ ss, s.hod.length ≤ 1024 ∧ s.sec.length ≤ 1024) (i : Nat) : (bytesAt ss i).length ≤ 36 + ss.length * 2052 ∧ 31 ≤ (bytesAt ss i).length ∧ (0 < i → 36 ≤ (bytesAt ss i).length) := by
  have hd := dscs_le hsm i
  by_cases hz : i = 0
  · have hb : bytesAt ss i = room := by simp [bytesAt, hz]
    rw [hb, room_length]
    omega
  · have hb : bytesAt ss i = outB (dscs ss i) := by simp [bytesAt, hz]
    rw [hb, outB_length]
    omega
end Go.Proofs.Ybulkcmis.Bytes
