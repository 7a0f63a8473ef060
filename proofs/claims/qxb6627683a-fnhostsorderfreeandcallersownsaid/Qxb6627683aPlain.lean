/-
  The plain side: strictly increasing lists of byte strings. No Go in sight but the library's own word for slices.Compact.
-/
import Derived.Lib.SlicesCompact
namespace Go.Proofs.Qxb6627683a

theorem le_of_lt' {a b : List UInt8} (h : a < b) : a ≤ b := by
  rcases List.le_total a b with h1 | h1
  · exact h1
  · exact absurd h (List.not_lt.2 h1)
theorem lt_of_le_of_ne' {a b : List UInt8} (h : a ≤ b) (hn : a ≠ b) : a < b := by
  by_cases h1 : a < b
  · exact h1
  · exact absurd (List.le_antisymm h (List.not_lt.1 h1)) hn
theorem lt_of_le_of_lt' {a b c : List UInt8} (h : a ≤ b) (h2 : b < c) : a < c := by
  by_cases h1 : a < c
  · exact h1
  · exact absurd h2 (List.not_lt.2 (List.le_trans (List.not_lt.1 h1) h))
theorem lt_of_lt_of_le' {a b c : List UInt8} (h : a < b) (h2 : b ≤ c) : a < c := by
  by_cases h1 : a < c
  · exact h1
  · exact absurd h (List.not_lt.2 (List.le_trans h2 (List.not_lt.1 h1)))
theorem lt_irrefl' (a : List UInt8) : ¬ a < a := List.lt_irrefl a
theorem le_refl' (a : List UInt8) : a ≤ a := List.not_lt.1 (lt_irrefl' a)

def Inc (L : List (List UInt8)) : Prop := L.Pairwise (· < ·)
theorem Inc.lt {L : List (List UInt8)} (h : Inc L) {i j : Nat} {x y : List UInt8} (hi : L[i]? = some x) (hj : L[j]? = some y) (hij : i < j) : x < y := by
  obtain ⟨hi1, rfl⟩ := List.getElem?_eq_some_iff.1 hi
  obtain ⟨hj1, rfl⟩ := List.getElem?_eq_some_iff.1 hj
  exact List.pairwise_iff_getElem.1 h i j hi1 hj1 hij
theorem Inc.idx {L : List (List UInt8)} (h : Inc L) {i j : Nat} {x : List UInt8} (hi : L[i]? = some x) (hj : L[j]? = some x) : i = j := by
  rcases Nat.lt_trichotomy i j with h1 | h1 | h1
  · exact absurd (h.lt hi hj h1) (lt_irrefl' _)
  · exact h1
  · exact absurd (h.lt hj hi h1) (lt_irrefl' _)
/-- Two strictly increasing lists of the same members are one. -/
theorem inc_ext : ∀ {A B : List (List UInt8)}, Inc A → Inc B → (∀ x, x ∈ A ↔ x ∈ B) → A = B
  | [], [], _, _, _ => rfl
  | [], b :: B, _, _, h => by have := (h b).2 (by simp); cases this
  | a :: A, [], _, _, h => by have := (h a).1 (by simp); cases this
  | a :: A, b :: B, hA, hB, h => by
    have hA' := List.pairwise_cons.1 hA
    have hB' := List.pairwise_cons.1 hB
    have hab : a = b := by
      rcases List.mem_cons.1 ((h a).1 (by simp)) with h1 | h1
      · exact h1
      · rcases List.mem_cons.1 ((h b).2 (by simp)) with h2 | h2
        · exact h2.symm
        · exact absurd (lt_of_le_of_lt' (le_of_lt' (hA'.1 b h2)) (hB'.1 a h1)) (lt_irrefl' _)
    subst hab
    congr 1
    refine inc_ext hA'.2 hB'.2 fun x => ?_
    constructor
    · intro hx
      rcases List.mem_cons.1 ((h x).1 (by simp [hx])) with h1 | h1
      · exact absurd (hA'.1 x hx) (by rw [h1]; exact lt_irrefl' _)
      · exact h1
    · intro hx
      rcases List.mem_cons.1 ((h x).2 (by simp [hx])) with h1 | h1
      · exact absurd (hB'.1 x hx) (by rw [h1]; exact lt_irrefl' _)
      · exact h1

/-! ### What Hosts gives -/
def sorted (L : List (List UInt8)) : List (List UInt8) := L.mergeSort fun x y => decide (x ≤ y)
def hostsOf (L : List (List UInt8)) : List (List UInt8) := Lib.compact (sorted L)
theorem sorted_le (L : List (List UInt8)) : (sorted L).Pairwise (· ≤ ·) := by
  have h := List.pairwise_mergeSort (le := fun x y : List UInt8 => decide (x ≤ y))
    (fun a b c h1 h2 => by simp only [decide_eq_true_eq] at *; exact List.le_trans h1 h2) (fun a b => by simp only [Bool.or_eq_true, decide_eq_true_eq]; exact List.le_total a b) L
  rw [List.pairwise_iff_getElem] at h ⊢
  intro i j hi hj hij
  exact of_decide_eq_true (h i j hi hj hij)
theorem sorted_perm (L : List (List UInt8)) : (sorted L).Perm L := List.mergeSort_perm L _
theorem sorted_length (L : List (List UInt8)) : (sorted L).length = L.length := List.length_mergeSort L
theorem sorted_of_perm {L M : List (List UInt8)} (h : L.Perm M) : sorted L = sorted M :=
  List.Perm.eq_of_pairwise (le := fun a b : List UInt8 => a ≤ b) (fun _ _ _ _ h1 h2 => List.le_antisymm h1 h2) (sorted_le L) (sorted_le M) (((sorted_perm L).trans h).trans (sorted_perm M).symm)

theorem compact_inv (d : Array (List UInt8)) (hd : ∀ i j, i < j → j < d.size → d[i]! ≤ d[j]!) : ∀ m, m ≤ d.size →
    Inc (Lib.compactUpTo d m) ∧ (∀ x ∈ Lib.compactUpTo d m, x ≤ d[m - 1]!) ∧ (∀ x, x ∈ Lib.compactUpTo d m ↔ ∃ j, j < m ∧ d[j]! = x)
  | 0, _ => ⟨List.Pairwise.nil, fun x hx => (by simp [Lib.compactUpTo] at hx), fun x => (by simp [Lib.compactUpTo])⟩
  | m + 1, hm => by
    obtain ⟨h1, h2, h3⟩ := compact_inv d hd m (by omega)
    rw [Lib.compactUpTo_succ]
    by_cases hk : Lib.keeps d m = true
    · rw [if_pos hk]
      have hlt : ∀ x ∈ Lib.compactUpTo d m, x < d[m]! := by
        intro x hx
        have hm0 : m ≠ 0 := by rintro rfl; simp [Lib.compactUpTo] at hx
        have hne : d[m]! ≠ d[m - 1]! := by
          unfold Lib.keeps at hk
          rcases of_decide_eq_true hk with h | h
          · exact absurd h hm0
          · exact h
        exact lt_of_le_of_lt' (h2 x hx) (lt_of_le_of_ne' (hd (m - 1) m (by omega) (by omega)) (Ne.symm hne))
      refine ⟨?_, ?_, ?_⟩
      · exact List.pairwise_append.2 ⟨h1, List.pairwise_singleton _ _, fun a ha b hb => by rw [List.mem_singleton.1 hb]; exact hlt a ha⟩
      · intro x hx
        rw [Nat.add_sub_cancel]
        rcases List.mem_append.1 hx with hx | hx
        · exact le_of_lt' (hlt x hx)
        · rw [List.mem_singleton.1 hx]; exact le_refl' _
      · intro x
        rw [List.mem_append, h3, List.mem_singleton]
        constructor
        · rintro (⟨j, hj, e⟩ | e)
          · exact ⟨j, by omega, e⟩
          · exact ⟨m, by omega, e.symm⟩
        · rintro ⟨j, hj, e⟩
          rcases Nat.lt_or_ge j m with hjm | hjm
          · exact .inl ⟨j, hjm, e⟩
          · obtain rfl : j = m := by omega
            exact .inr e.symm
    · rw [if_neg hk, List.append_nil]
      have hm0 : m ≠ 0 := by rintro rfl; exact hk (Lib.keeps_lt_one d 0 (by omega))
      have heq : d[m]! = d[m - 1]! := by
        unfold Lib.keeps at hk
        simp only [decide_eq_true_eq, not_or, Decidable.not_not] at hk
        exact hk.2
      refine ⟨h1, ?_, ?_⟩
      · intro x hx
        rw [Nat.add_sub_cancel, heq]
        exact h2 x hx
      · intro x
        rw [h3]
        constructor
        · rintro ⟨j, hj, e⟩; exact ⟨j, by omega, e⟩
        · rintro ⟨j, hj, e⟩
          rcases Nat.lt_or_ge j m with hjm | hjm
          · exact ⟨j, hjm, e⟩
          · obtain rfl : j = m := by omega
            exact ⟨j - 1, by omega, by rw [← e, heq]⟩
theorem sorted_arr (L : List (List UInt8)) : ∀ i j, i < j → j < (sorted L).toArray.size → (sorted L).toArray[i]! ≤ (sorted L).toArray[j]! := by
  intro i j hij hj
  have hj' : j < (sorted L).length := by simpa using hj
  have := List.pairwise_iff_getElem.1 (sorted_le L) i j (by omega) hj' hij
  simpa [getElem!_pos, hj', show i < (sorted L).length by omega] using this
theorem hosts_inc (L : List (List UInt8)) : Inc (hostsOf L) := (compact_inv _ (sorted_arr L) _ (by simp)).1
theorem mem_hosts (L : List (List UInt8)) (x : List UInt8) : x ∈ hostsOf L ↔ x ∈ L := by
  have h := (compact_inv _ (sorted_arr L) (sorted L).length (by simp)).2.2 x
  rw [show hostsOf L = Lib.compactUpTo (sorted L).toArray (sorted L).length from rfl, h, ← (sorted_perm L).mem_iff]
  constructor
  · rintro ⟨j, hj, e⟩
    rw [← e]
    simp [getElem!_pos, hj]
  · intro hx
    obtain ⟨j, hj, e⟩ := List.mem_iff_getElem.1 hx
    exact ⟨j, hj, by simpa [getElem!_pos, hj] using e⟩
theorem hosts_le (L : List (List UInt8)) : (hostsOf L).length ≤ L.length := by
  have : (Lib.compactUpTo (sorted L).toArray (sorted L).length).length ≤ (sorted L).length := by
    unfold Lib.compactUpTo
    rw [List.length_map]
    exact Nat.le_trans (List.length_filter_le _ _) (by simp)
  exact Nat.le_trans this (Nat.le_of_eq (sorted_length L))
theorem hosts_of_perm {L M : List (List UInt8)} (h : L.Perm M) : hostsOf L = hostsOf M := by unfold hostsOf; rw [sorted_of_perm h]

/-! ### union -/
def UInv (A B : List (List UInt8)) (i j : Nat) (out : List (List UInt8)) : Prop :=
  Inc out ∧ (∀ x, x ∈ out ↔ x ∈ A.take i ∨ x ∈ B.take j) ∧ (∀ x ∈ out, (∀ y ∈ A.drop i, x ≤ y) ∧ (∀ y ∈ B.drop j, x ≤ y)) ∧ out.length ≤ i + j
theorem UInv.swap {A B : List (List UInt8)} {i j : Nat} {out : List (List UInt8)} (h : UInv A B i j out) : UInv B A j i out :=
  ⟨h.1, fun x => by rw [h.2.1 x, Or.comm], fun x hx => ⟨(h.2.2.1 x hx).2, (h.2.2.1 x hx).1⟩, by have := h.2.2.2; omega⟩
theorem uinv_start (A B : List (List UInt8)) : UInv A B 0 0 [] := ⟨List.Pairwise.nil, by simp, by simp, by simp⟩
theorem inc_drop_le {A : List (List UInt8)} (hA : Inc A) {i : Nat} {s : List UInt8} (hs : A[i]? = some s) : (∀ y ∈ A.drop i, s ≤ y) ∧ (∀ y ∈ A.drop (i + 1), s ≤ y) ∧ s ∈ A.drop i ∧ A.take (i + 1) = A.take i ++ [s] := by
  obtain ⟨hi, e⟩ := List.getElem?_eq_some_iff.1 hs
  have hd : A.drop i = s :: A.drop (i + 1) := by rw [List.drop_eq_getElem_cons hi, e]
  have hp : Inc (A.drop i) := hA.sublist (List.drop_sublist _ _)
  rw [hd] at hp
  have hp' := List.pairwise_cons.1 hp
  refine ⟨?_, fun y hy => le_of_lt' (hp'.1 y hy), by rw [hd]; simp, by rw [List.take_add_one, hs]; rfl⟩
  intro y hy
  rw [hd] at hy
  rcases List.mem_cons.1 hy with rfl | hy
  · exact le_refl' _
  · exact le_of_lt' (hp'.1 y hy)
/-- The least of what is left is taken and put in. -/
theorem uinv_put {A B : List (List UInt8)} {i j : Nat} {out : List (List UInt8)} {s : List UInt8} (h : UInv A B i j out) (hA : Inc A) (hs : A[i]? = some s) (hB : ∀ y ∈ B.drop j, s ≤ y) (hl : ∀ l, out.getLast? = some l → l ≠ s) : UInv A B (i + 1) j (out ++ [s]) := by
  obtain ⟨a1, a2, a3, a4⟩ := inc_drop_le hA hs
  obtain ⟨h1, h2, h3, h4⟩ := h
  have hlt : ∀ x ∈ out, x < s := by
    intro x hx
    have hne : out ≠ [] := by rintro rfl; cases hx
    have hle : out.getLast? = some (out.getLast hne) := List.getLast?_eq_some_getLast hne
    have hl' := hl _ hle
    have hls : out.getLast hne ≤ s := (h3 _ (List.getLast_mem hne)).1 s a3
    have hlt := lt_of_le_of_ne' hls hl'
    have hsplit : out = out.dropLast ++ [out.getLast hne] := (List.dropLast_concat_getLast hne).symm
    rw [hsplit] at hx
    rcases List.mem_append.1 hx with hx | hx
    · have hp : Inc (out.dropLast ++ [out.getLast hne]) := by rw [← hsplit]; exact h1
      exact lt_of_lt_of_le' ((List.pairwise_append.1 hp).2.2 x hx _ (by simp)) hls
    · rw [List.mem_singleton.1 hx]; exact hlt
  refine ⟨?_, ?_, ?_, by simp; omega⟩
  · exact List.pairwise_append.2 ⟨h1, List.pairwise_singleton _ _, fun a ha b hb => by rw [List.mem_singleton.1 hb]; exact hlt a ha⟩
  · intro x
    rw [a4, List.mem_append, List.mem_append, h2]
    constructor
    · rintro ((h | h) | h)
      · exact .inl (.inl h)
      · exact .inr h
      · exact .inl (.inr h)
    · rintro ((h | h) | h)
      · exact .inl (.inl h)
      · exact .inr h
      · exact .inl (.inr h)
  · intro x hx
    rcases List.mem_append.1 hx with hx | hx
    · exact ⟨fun y hy => (h3 x hx).1 y (List.mem_of_mem_drop (i := 1) (by rw [List.drop_drop]; exact hy)), (h3 x hx).2⟩
    · rw [List.mem_singleton.1 hx]; exact ⟨a2, hB⟩
/-- .. or is there already. -/
theorem uinv_keep {A B : List (List UInt8)} {i j : Nat} {out : List (List UInt8)} {s : List UInt8} (h : UInv A B i j out) (hs : A[i]? = some s) (hl : out.getLast? = some s) : UInv A B (i + 1) j out := by
  obtain ⟨h1, h2, h3, h4⟩ := h
  have hmem : s ∈ out := List.mem_of_getLast? hl
  have a4 : A.take (i + 1) = A.take i ++ [s] := by rw [List.take_add_one, hs]; rfl
  refine ⟨h1, ?_, ?_, by omega⟩
  · intro x
    rw [a4, List.mem_append, List.mem_singleton]
    constructor
    · intro hx
      rcases (h2 x).1 hx with h | h
      · exact .inl (.inl h)
      · exact .inr h
    · rintro ((h | h) | h)
      · exact (h2 x).2 (.inl h)
      · rw [h]; exact hmem
      · exact (h2 x).2 (.inr h)
  · intro x hx
    exact ⟨fun y hy => (h3 x hx).1 y (List.mem_of_mem_drop (i := 1) (by rw [List.drop_drop]; exact hy)), (h3 x hx).2⟩
theorem uinv_end {A B : List (List UInt8)} {i j : Nat} {out : List (List UInt8)} (h : UInv A B i j out) (hi : A.length ≤ i) (hj : B.length ≤ j) : Inc out ∧ ∀ x, x ∈ out ↔ x ∈ A ∨ x ∈ B := by
  refine ⟨h.1, fun x => ?_⟩
  rw [h.2.1 x, List.take_of_length_le hi, List.take_of_length_le hj]
end Go.Proofs.Qxb6627683a
