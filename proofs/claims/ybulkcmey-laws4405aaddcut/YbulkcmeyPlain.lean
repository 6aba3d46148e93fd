/-
  Plain mathematics of a hint buffer: entries, their bytes, where each begins, where a cut falls. No Go in sight.
-/
import Derived.Lib.Endian
namespace Go.Proofs.Ybulkcmey.Hint
open Go

structure Ent where
  flags : UInt8
  key : List UInt8
  size : Nat

def hdr : List UInt8 := [65, 83, 72, 76, 72, 73, 78, 84] ++ Lib.leBytes 4 5
def enc (e : Ent) : List UInt8 := e.flags :: (Lib.leBytes 2 e.key.length ++ (Lib.leBytes 4 e.size ++ e.key))
def bufOf (es : List Ent) : List UInt8 := hdr ++ es.flatMap enc
def posAt (es : List Ent) (i : Nat) : Nat := (bufOf (es.take i)).length
def endAt (es : List Ent) (i : Nat) : Nat := 24 + ((es.take i).map (·.size)).sum

/-- Entries as the law makes them: keys of at most 1024 bytes, sizes of 32 bits. -/
def Fine (es : List Ent) : Prop := ∀ e ∈ es, e.key.length ≤ 1024 ∧ e.size < 4294967296

/-- i is where a cut at off falls. -/
def IsCut (es : List Ent) (off : Int) (i : Nat) : Prop := i ≤ es.length ∧ (∀ j, j < i → (endAt es j : Int) < off) ∧ (i < es.length → off ≤ (endAt es i : Int))

theorem IsCut.unique {es : List Ent} {off : Int} {i j : Nat} (hi : IsCut es off i) (hj : IsCut es off j) : i = j := by
  rcases Nat.lt_trichotomy i j with h | h | h
  · have a := hi.2.2 (Nat.lt_of_lt_of_le h hj.1)
    have b := hj.2.1 i h
    omega
  · exact h
  · have a := hj.2.2 (Nat.lt_of_lt_of_le h hi.1)
    have b := hi.2.1 j h
    omega

theorem hdr_length : hdr.length = 12 := by simp [hdr, Lib.leBytes_length]

theorem enc_length (e : Ent) : (enc e).length = 7 + e.key.length := by
  simp [enc, Lib.leBytes_length]; omega

theorem posAt_zero (es : List Ent) : posAt es 0 = 12 := by simp [posAt, bufOf, hdr_length]
theorem endAt_zero (es : List Ent) : endAt es 0 = 24 := by simp [endAt]

theorem bufOf_snoc (es : List Ent) (e : Ent) : bufOf (es ++ [e]) = bufOf es ++ enc e := by simp [bufOf]

theorem take_snoc {es : List Ent} {i : Nat} (h : i < es.length) : es.take (i + 1) = es.take i ++ [es[i]] := by
  rw [List.take_succ_eq_append_getElem h]

theorem posAt_succ {es : List Ent} {i : Nat} (h : i < es.length) : posAt es (i + 1) = posAt es i + (7 + es[i].key.length) := by
  rw [posAt, posAt, take_snoc h, bufOf_snoc, List.length_append, enc_length]

theorem endAt_succ {es : List Ent} {i : Nat} (h : i < es.length) : endAt es (i + 1) = endAt es i + es[i].size := by
  simp only [endAt, take_snoc h, List.map_append, List.sum_append, List.map_cons, List.map_nil, List.sum_cons, List.sum_nil]; omega

theorem posAt_all (es : List Ent) : posAt es es.length = (bufOf es).length := by simp [posAt]

theorem bufOf_split (es : List Ent) (i : Nat) : bufOf es = bufOf (es.take i) ++ (es.drop i).flatMap enc := by
  rw [bufOf, bufOf, List.append_assoc, ← List.flatMap_append, List.take_append_drop]

theorem posAt_le (es : List Ent) (i : Nat) : posAt es i ≤ (bufOf es).length := by
  rw [bufOf_split es i, List.length_append]; exact Nat.le_add_right _ _

theorem bufOf_take (es : List Ent) (i : Nat) : (bufOf es).take (posAt es i) = bufOf (es.take i) := by
  rw [bufOf_split es i, posAt, List.take_left']
  rfl

theorem posAt_lt {es : List Ent} {i : Nat} (h : i < es.length) : posAt es i < (bufOf es).length := by
  have := posAt_succ h
  have := posAt_le es (i + 1)
  omega

theorem at_entry {es : List Ent} {i : Nat} (h : i < es.length) (k : Nat) (hk : k < (enc es[i]).length) : (bufOf es)[posAt es i + k]? = (enc es[i])[k]? := by
  have hd : es.drop i = es[i] :: es.drop (i + 1) := List.drop_eq_getElem_cons h
  rw [bufOf_split es i, posAt, List.getElem?_append_right (by omega), hd, List.flatMap_cons, List.getElem?_append_left (by omega)]
  congr 1
  omega

/-- What lies in an entry's head: its two bytes of length, its four of size. -/
theorem head_bytes {es : List Ent} (hf : Fine es) {i : Nat} (h : i < es.length) : ∃ b0 b1 c0 c1 c2 c3 : UInt8,
    (bufOf es)[posAt es i + 1]? = some b0 ∧ (bufOf es)[posAt es i + 2]? = some b1 ∧ (bufOf es)[posAt es i + 3]? = some c0 ∧ (bufOf es)[posAt es i + 4]? = some c1 ∧
    (bufOf es)[posAt es i + 5]? = some c2 ∧ (bufOf es)[posAt es i + 6]? = some c3 ∧ Lib.leNat [b0, b1] = es[i].key.length ∧ Lib.leNat [c0, c1, c2, c3] = es[i].size := by
  have hl := enc_length es[i]
  have hk : es[i].key.length < 256 ^ 2 := by have := (hf es[i] (List.getElem_mem h)).1; omega
  have hs : es[i].size < 256 ^ 4 := by have := (hf es[i] (List.getElem_mem h)).2; omega
  have r2 := Lib.leNat_leBytes 2 _ hk
  have r4 := Lib.leNat_leBytes 4 _ hs
  refine ⟨_, _, _, _, _, _, (at_entry h 1 (by omega)).trans rfl, (at_entry h 2 (by omega)).trans rfl, (at_entry h 3 (by omega)).trans rfl, (at_entry h 4 (by omega)).trans rfl,
    (at_entry h 5 (by omega)).trans rfl, (at_entry h 6 (by omega)).trans rfl, ?_, ?_⟩
  · exact r2
  · exact r4

theorem sum_le {es : List Ent} (hf : Fine es) : (es.map (·.size)).sum ≤ es.length * 4294967296 := by
  induction es with
  | nil => simp
  | cons e r ih =>
    have h1 := (hf e (List.mem_cons_self ..)).2
    have h2 := ih (fun x hx => hf x (List.mem_cons_of_mem _ hx))
    simp only [List.map_cons, List.sum_cons, List.length_cons]
    omega

theorem len_le {es : List Ent} (hf : Fine es) : (bufOf es).length ≤ 12 + es.length * 1031 := by
  induction es with
  | nil => simp [bufOf, hdr_length]
  | cons e r ih =>
    have h1 := (hf e (List.mem_cons_self ..)).1
    have h2 := ih (fun x hx => hf x (List.mem_cons_of_mem _ hx))
    have h3 := enc_length e
    simp only [bufOf, List.flatMap_cons, List.length_append, List.length_cons] at *
    omega

theorem Fine.take {es : List Ent} (hf : Fine es) (i : Nat) : Fine (es.take i) := fun e he => hf e (List.mem_of_mem_take he)

theorem endAt_le {es : List Ent} (hf : Fine es) (i : Nat) : endAt es i ≤ 24 + es.length * 4294967296 := by
  have h := sum_le (hf.take i)
  have h2 : (es.take i).length ≤ es.length := List.length_take_le' _ _
  have : (es.take i).length * 4294967296 ≤ es.length * 4294967296 := Nat.mul_le_mul_right _ h2
  unfold endAt
  omega

end Go.Proofs.Ybulkcmey.Hint
