/-
  Heads, tails and sorted keys. No Go in sight.
-/
import Derived.Lib.SlicesCompact
namespace Go.Proofs.Ybulkcmey.B

/-- Byte i of a key, zero behind its end. -/
def byte (k : List UInt8) (i : Nat) : Nat := (k.getD i 0).toNat
/-- The four bytes from o on, as a big-endian number. -/
def head (k : List UInt8) (o : Nat) : Nat := byte k o * 16777216 + byte k (o + 1) * 65536 + byte k (o + 2) * 256 + byte k (o + 3)

theorem byte_lt (k : List UInt8) (i : Nat) : byte k i < 256 := by unfold byte; exact UInt8.toNat_lt _
theorem head_lt (k : List UInt8) (o : Nat) : head k o < 4294967296 := by
  have h0 := byte_lt k o
  have h1 := byte_lt k (o + 1)
  have h2 := byte_lt k (o + 2)
  have h3 := byte_lt k (o + 3)
  unfold head; omega

theorem byte_append (p s : List UInt8) (i : Nat) : byte (p ++ s) (p.length + i) = byte s i := by
  simp [byte, List.getD_eq_getElem?_getD, List.getElem?_append_right]
theorem head_append (p s : List UInt8) (o : Nat) : head (p ++ s) (p.length + o) = head s o := by
  simp only [head, Nat.add_assoc, byte_append]
theorem head_append0 (p s : List UInt8) : head (p ++ s) p.length = head s 0 := head_append p s 0

/-- The first m bytes as a number, zeros behind the end. -/
def val : Nat → List UInt8 → Nat
  | 0, _ => 0
  | _ + 1, [] => 0
  | m + 1, b :: k => b.toNat * 256 ^ m + val m k

theorem val_lt : ∀ (m : Nat) (k : List UInt8), val m k < 256 ^ m
  | 0, _ => by simp [val]
  | m + 1, [] => by simp [val]; exact Nat.pos_of_ne_zero (by simp)
  | m + 1, b :: k => by
    have h := val_lt m k
    have hb : b.toNat < 256 := UInt8.toNat_lt b
    have h2 : (b.toNat + 1) * 256 ^ m ≤ 256 * 256 ^ m := Nat.mul_le_mul_right _ hb
    rw [val, Nat.pow_succ]
    rw [Nat.add_mul] at h2
    omega

theorem val_eq_byte (k : List UInt8) : head k 0 = val 4 k ∧ val 8 k = head k 0 * 4294967296 + head k 4 := by
  have key : ∀ (m : Nat) (k : List UInt8), val (m + 1) k = byte k 0 * 256 ^ m + val m (k.drop 1) := by
    intro m k
    cases k with
    | nil => cases m <;> simp [val, byte]
    | cons b k => simp [val, byte]
  have bd : ∀ (i : Nat), byte (k.drop i) 0 = byte k i := by intro i; simp [byte, List.getD_eq_getElem?_getD]
  constructor
  · rw [key 3, key 2, key 1, key 0]
    simp only [List.drop_drop, bd, Nat.reduceAdd, val, head]
    omega
  · rw [key 7, key 6, key 5, key 4, key 3, key 2, key 1, key 0]
    simp only [List.drop_drop, bd, Nat.reduceAdd, val, head]
    omega

theorem lt_of_val : ∀ (m : Nat) (t s : List UInt8), val m t < val m s → t < s
  | 0, _, _, h => by simp [val] at h
  | m + 1, t, [], h => by cases t <;> simp [val] at h
  | m + 1, [], a :: s, _ => List.nil_lt_cons a s
  | m + 1, b :: t, a :: s, h => by
    rw [List.cons_lt_cons_iff]
    by_cases hab : b < a
    · exact .inl hab
    · right
      have h1 := val_lt m t
      have h2 := val_lt m s
      rw [val, val] at h
      have hab' : a.toNat ≤ b.toNat := by
        rw [UInt8.lt_iff_toNat_lt] at hab
        omega
      by_cases he : a.toNat = b.toNat
      · rw [he] at h
        exact ⟨UInt8.toNat_inj.1 he.symm, lt_of_val m t s (by omega)⟩
      · exfalso
        have h3 : (a.toNat + 1) * 256 ^ m ≤ b.toNat * 256 ^ m := Nat.mul_le_mul_right _ (by omega)
        rw [Nat.add_mul] at h3
        omega

theorem val_len : ∀ (m : Nat) (s t : List UInt8), val m s = val m t → s.length ≤ m → t.length ≤ m → (s.length < t.length → s < t) ∧ (s.length = t.length → s = t)
  | _, [], [], _, _, _ => by simp
  | _, [], b :: t, _, _, _ => by simp
  | _, a :: s, [], _, _, _ => by simp
  | 0, a :: s, b :: t, _, h, _ => by simp at h
  | m + 1, a :: s, b :: t, h, hs, ht => by
    have h1 := val_lt m t
    have h2 := val_lt m s
    rw [val, val] at h
    have he : a.toNat = b.toNat := by
      rcases Nat.lt_trichotomy a.toNat b.toNat with hlt | heq | hgt
      · have h3 : (a.toNat + 1) * 256 ^ m ≤ b.toNat * 256 ^ m := Nat.mul_le_mul_right _ hlt
        rw [Nat.add_mul] at h3
        omega
      · exact heq
      · have h3 : (b.toNat + 1) * 256 ^ m ≤ a.toNat * 256 ^ m := Nat.mul_le_mul_right _ hgt
        rw [Nat.add_mul] at h3
        omega
    have hab : a = b := UInt8.toNat_inj.1 he
    subst hab
    have ih := val_len m s t (by omega) (by simpa using hs) (by simpa using ht)
    constructor
    · intro hl
      rw [List.cons_lt_cons_iff]
      exact .inr ⟨rfl, ih.1 (by simpa using hl)⟩
    · intro hl
      rw [ih.2 (by simpa using hl)]

/-- Heads that differ order the keys. -/
theorem lt_of_head {s t : List UInt8} (h : head s 0 < head t 0) : s < t := by
  rw [(val_eq_byte s).1, (val_eq_byte t).1] at h
  exact lt_of_val 4 s t h
/-- .. and so do tails behind equal heads. -/
theorem lt_of_tail {s t : List UInt8} (he : head s 0 = head t 0) (h : head s 4 < head t 4) : s < t := by
  refine lt_of_val 8 s t ?_
  rw [(val_eq_byte s).2, (val_eq_byte t).2, he]
  omega
theorem of_lens {s t : List UInt8} (he : head s 0 = head t 0) (h : head s 4 = head t 4) (hs : s.length ≤ 8) (ht : t.length ≤ 8) : (s.length < t.length → s < t) ∧ (s.length = t.length → s = t) :=
  val_len 8 s t (by rw [(val_eq_byte s).2, (val_eq_byte t).2, he, h]) hs ht

theorem append_lt (p s t : List UInt8) : p ++ s < p ++ t ↔ s < t := by
  induction p with
  | nil => simp
  | cons a p ih => simp [ih]

theorem lt_irrefl (s : List UInt8) : ¬ s < s := List.lt_irrefl s
theorem lt_trans {s t u : List UInt8} (h : s < t) (k : t < u) : s < u := List.lt_trans h k
theorem lt_asymm {s t : List UInt8} (h : s < t) : ¬ t < s := List.lt_asymm h
theorem tri (s t : List UInt8) : s < t ∨ s = t ∨ t < s := by
  by_cases h : s < t
  · exact .inl h
  · by_cases k : t < s
    · exact .inr (.inr k)
    · exact .inr (.inl (List.le_antisymm (List.not_lt.1 k) (List.not_lt.1 h)))

/-- The keys rise. -/
def Rise (ks : List (List UInt8)) : Prop := ks.Pairwise (· < ·)

theorem Rise.lt {ks : List (List UInt8)} (h : Rise ks) {i j : Nat} (hij : i < j) (hj : j < ks.length) : ks[i] < ks[j] :=
  (List.pairwise_iff_getElem.1 h) i j (by omega) hj hij

theorem Rise.take {ks : List (List UInt8)} (h : Rise ks) (n : Nat) : Rise (ks.take n) := List.Pairwise.sublist (List.take_sublist n ks) h

theorem rise_compact (zs : List (List UInt8)) (h : zs.Pairwise (· ≤ ·)) : Rise (Lib.compact zs) := by
  unfold Rise Lib.compact Lib.compactUpTo
  rw [List.pairwise_map, List.pairwise_filter]
  have hr : (List.range zs.length).Pairwise (fun a b => a < b ∧ b < zs.length) := by
    rw [List.pairwise_iff_getElem]
    intro i j hi hj hij
    simp at hi hj ⊢
    omega
  refine hr.imp ?_
  rintro a b ⟨hab, hb⟩ _ hk
  have hb0 : b ≠ 0 := by omega
  simp only [Lib.keeps, hb0, false_or, decide_eq_true_eq] at hk
  have e1 : zs.toArray[b]! = zs[b] := by simp [hb]
  have e2 : zs.toArray[b - 1]! = zs[b - 1] := by simp [show b - 1 < zs.length from by omega]
  have e3 : zs.toArray[a]! = zs[a] := by simp [show a < zs.length from by omega]
  rw [e1, e2] at hk
  rw [e1, e3]
  have le1 : zs[b - 1] ≤ zs[b] := (List.pairwise_iff_getElem.1 h) (b - 1) b (by omega) hb (by omega)
  have lt1 : zs[b - 1] < zs[b] := by
    rcases tri zs[b - 1] zs[b] with h1 | h1 | h1
    · exact h1
    · exact absurd h1.symm hk
    · exact absurd h1 (List.not_lt.2 le1)
  by_cases hab1 : a = b - 1
  · subst hab1; exact lt1
  · have le2 : zs[a] ≤ zs[b - 1] := (List.pairwise_iff_getElem.1 h) a (b - 1) (by omega) (by omega) (by omega)
    rcases tri zs[a] zs[b - 1] with h1 | h1 | h1
    · exact lt_trans h1 lt1
    · rw [h1]; exact lt1
    · exact absurd h1 (List.not_lt.2 le2)

theorem sorted_merge (ss : List (List UInt8)) : (ss.mergeSort fun x y => decide (x ≤ y)).Pairwise (· ≤ ·) := by
  have h := List.pairwise_mergeSort (le := fun (x y : List UInt8) => decide (x ≤ y)) (fun a b c h1 h2 => by
    simp only [decide_eq_true_eq] at *
    exact List.le_trans h1 h2) (fun a b => by
    simp only [Bool.or_eq_true, decide_eq_true_eq]
    exact List.le_total a b) ss
  exact h.imp (fun h => by simpa using h)

/-- What zzs4405bkeys makes of the raw keys. -/
def keysOf (ss : List (List UInt8)) : List (List UInt8) := (Lib.compact (ss.mergeSort fun x y => decide (x ≤ y))).take 31

theorem rise_keysOf (ss : List (List UInt8)) : Rise (keysOf ss) := (rise_compact _ (sorted_merge ss)).take 31
theorem keysOf_le (ss : List (List UInt8)) : (keysOf ss).length ≤ 31 := by simp [keysOf]; omega
theorem keysOf_len (ss : List (List UInt8)) {m : Nat} (h : ∀ s ∈ ss, s.length ≤ m) : ∀ s ∈ keysOf ss, s.length ≤ m := by
  intro s hs
  have h1 := List.mem_of_mem_take hs
  unfold Lib.compact Lib.compactUpTo at h1
  rw [List.mem_map] at h1
  obtain ⟨a, ha, rfl⟩ := h1
  have ha' := (List.mem_filter.1 ha).1
  have hlt := List.mem_range.1 ha'
  have e : (ss.mergeSort fun x y => decide (x ≤ y)).toArray[a]! = (ss.mergeSort fun x y => decide (x ≤ y))[a] := by
    rw [getElem!_pos _ a (by simpa using hlt)]
    simp
  rw [e]
  exact h _ (List.mem_mergeSort.1 (List.getElem_mem hlt))
end Go.Proofs.Ybulkcmey.B
