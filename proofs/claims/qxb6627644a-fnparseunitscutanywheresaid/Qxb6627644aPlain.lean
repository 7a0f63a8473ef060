/-
  The plain side: what ParseUnits gives, as a function of a list of bytes. No Go in sight.
-/
namespace Go.Proofs.Qxb6627644a

def isD (c : UInt8) : Bool := decide (48 ≤ c.toNat) && decide (c.toNat ≤ 57)
def isP (c : UInt8) : Bool := decide (c.toNat = 46)
def nD (l : List UInt8) : Nat := (l.filter isD).length
def nP (l : List UInt8) : Nat := (l.filter isP).length
def dig (c : UInt8) : Nat := c.toNat - 48
def val (l : List UInt8) : Nat := l.foldl (fun v c => if isD c then v * 10 + dig c else v) 0
def okc (l : List UInt8) : Bool := l.all fun c => isD c || isP c
def good (l : List UInt8) : Bool := okc l && decide (nD l ≤ 18) && decide (nP l ≤ 1)
def trail (l : List UInt8) : Bool := (l.getLast?.map isP).getD false
/-- The number that the bytes write, and whether they write a whole one. -/
def puV (l : List UInt8) : Nat := if good l then val l else 0
def puB (l : List UInt8) : Bool := good l && decide (0 < nD l) && (decide (nP l = 0) || trail l)

theorem isD_iff {c : UInt8} : isD c = true ↔ 48 ≤ c.toNat ∧ c.toNat ≤ 57 := by simp [isD]
theorem isP_iff {c : UInt8} : isP c = true ↔ c.toNat = 46 := by simp [isP]
theorem isP_of_isD {c : UInt8} (h : isD c = true) : isP c = false := by
  have := isD_iff.1 h
  cases hp : isP c
  · rfl
  · have := isP_iff.1 hp; omega
theorem isD_of_isP {c : UInt8} (h : isP c = true) : isD c = false := by
  have := isP_iff.1 h
  cases hp : isD c
  · rfl
  · have := isD_iff.1 hp; omega

theorem nD_append (a b : List UInt8) : nD (a ++ b) = nD a + nD b := by simp [nD]
theorem nP_append (a b : List UInt8) : nP (a ++ b) = nP a + nP b := by simp [nP]
theorem okc_append (a b : List UInt8) : okc (a ++ b) = (okc a && okc b) := by simp [okc]
theorem nD_one (c : UInt8) : nD [c] = if isD c then 1 else 0 := by cases h : isD c <;> simp [nD, h]
theorem nP_one (c : UInt8) : nP [c] = if isP c then 1 else 0 := by cases h : isP c <;> simp [nP, h]
theorem nD_cons (c : UInt8) (l : List UInt8) : nD (c :: l) = (if isD c then 1 else 0) + nD l := by
  rw [show c :: l = [c] ++ l from rfl, nD_append, nD_one]
theorem nP_cons (c : UInt8) (l : List UInt8) : nP (c :: l) = (if isP c then 1 else 0) + nP l := by
  rw [show c :: l = [c] ++ l from rfl, nP_append, nP_one]
theorem okc_cons (c : UInt8) (l : List UInt8) : okc (c :: l) = ((isD c || isP c) && okc l) := by simp [okc]
theorem nD_le (l : List UInt8) : nD l ≤ l.length := List.length_filter_le _ _
theorem nP_le (l : List UInt8) : nP l ≤ l.length := List.length_filter_le _ _

theorem val_from (l : List UInt8) : ∀ v : Nat, l.foldl (fun v c => if isD c then v * 10 + dig c else v) v = v * 10 ^ nD l + val l := by
  induction l with
  | nil => intro v; simp [nD, val]
  | cons c l ih =>
    intro v
    have e : val (c :: l) = l.foldl (fun v c => if isD c then v * 10 + dig c else v) (if isD c then dig c else 0) := by simp [val]
    rw [e, List.foldl_cons, ih, ih, nD_cons]
    cases h : isD c
    · simp
    · simp [Nat.add_comm 1, Nat.pow_succ, Nat.add_mul, Nat.mul_assoc, Nat.mul_comm 10]
      omega
theorem val_append (a b : List UInt8) : val (a ++ b) = val a * 10 ^ nD b + val b := by
  unfold val
  rw [List.foldl_append]
  exact val_from b _
theorem val_one (c : UInt8) : val [c] = if isD c then dig c else 0 := by simp [val]
theorem val_cons (c : UInt8) (l : List UInt8) : val (c :: l) = (if isD c then dig c else 0) * 10 ^ nD l + val l := by
  rw [show c :: l = [c] ++ l from rfl, val_append, val_one]
theorem dig_le {c : UInt8} (h : isD c = true) : dig c ≤ 9 := by have := isD_iff.1 h; unfold dig; omega
theorem val_lt (l : List UInt8) : val l < 10 ^ nD l := by
  induction l with
  | nil => simp [val, nD]
  | cons c l ih =>
    rw [val_cons, nD_cons]
    cases h : isD c
    · simpa using ih
    · have := dig_le h
      simp only [if_true]
      rw [Nat.pow_add, Nat.pow_one]
      have h1 : dig c * 10 ^ nD l ≤ 9 * 10 ^ nD l := Nat.mul_le_mul_right _ this
      omega
theorem val_zero {l : List UInt8} (h : nD l = 0) : val l = 0 := by have := val_lt l; rw [h] at this; omega
theorem pow_mono {a b : Nat} (h : a ≤ b) : 10 ^ a ≤ 10 ^ b := Nat.pow_le_pow_right (by omega) h
theorem val_lt18 {l : List UInt8} (h : nD l ≤ 18) : val l < 1000000000000000000 := by
  have h1 := val_lt l
  have h2 := pow_mono h
  exact Nat.lt_of_lt_of_le h1 h2
theorem val_lt17 {l : List UInt8} (h : nD l < 18) : val l < 100000000000000000 := by
  have h1 := val_lt l
  have h2 := pow_mono (show nD l ≤ 17 by omega)
  exact Nat.lt_of_lt_of_le h1 h2

/-! ### What a byte more does, from the left -/
theorem good_iff {l : List UInt8} : good l = true ↔ okc l = true ∧ nD l ≤ 18 ∧ nP l ≤ 1 := by simp [good, and_assoc]
theorem good_mono {a b : List UInt8} (h : good (a ++ b) = true) : good a = true ∧ good b = true := by
  rw [good_iff, okc_append, nD_append, nP_append, Bool.and_eq_true] at h
  exact ⟨good_iff.2 ⟨h.1.1, by omega, by omega⟩, good_iff.2 ⟨h.1.2, by omega, by omega⟩⟩
theorem good_snoc_digit {l : List UInt8} {c : UInt8} (h : good l = true) (hc : isD c = true) (hn : nD l < 18) : good (l ++ [c]) = true ∧ nD (l ++ [c]) = nD l + 1 ∧ nP (l ++ [c]) = nP l ∧ val (l ++ [c]) = val l * 10 + dig c := by
  have hp := isP_of_isD hc
  have hg := good_iff.1 h
  have e1 : nD (l ++ [c]) = nD l + 1 := by simp [nD_append, nD_one, hc]
  have e2 : nP (l ++ [c]) = nP l := by simp [nP_append, nP_one, hp]
  refine ⟨good_iff.2 ⟨by rw [okc_append, hg.1]; simp [okc, hc], by omega, by omega⟩, e1, e2, ?_⟩
  rw [val_append, nD_one, val_one]
  simp [hc]
theorem good_snoc_point {l : List UInt8} {c : UInt8} (h : good l = true) (hc : isP c = true) (hn : nP l = 0) : good (l ++ [c]) = true ∧ nD (l ++ [c]) = nD l ∧ nP (l ++ [c]) = 1 ∧ val (l ++ [c]) = val l := by
  have hd := isD_of_isP hc
  have hg := good_iff.1 h
  have e1 : nD (l ++ [c]) = nD l := by simp [nD_append, nD_one, hd]
  have e2 : nP (l ++ [c]) = 1 := by simp [nP_append, nP_one, hc, hn]
  refine ⟨good_iff.2 ⟨by rw [okc_append, hg.1]; simp [okc, hc], by omega, by omega⟩, e1, e2, ?_⟩
  rw [val_append, nD_one, val_one]
  simp [hd]
theorem bad_snoc {l : List UInt8} {c : UInt8} (h : (isD c = false ∧ isP c = false) ∨ (isD c = true ∧ 18 ≤ nD l) ∨ (isP c = true ∧ 1 ≤ nP l)) (r : List UInt8) : good (l ++ c :: r) = false := by
  cases hg : good (l ++ c :: r)
  · rfl
  · exfalso
    have := good_iff.1 hg
    rw [okc_append, okc_cons, nD_append, nD_cons, nP_append, nP_cons] at this
    simp only [Bool.and_eq_true] at this
    obtain ⟨⟨h1, h2, h3⟩, h4, h5⟩ := this
    rcases h with ⟨a, b⟩ | ⟨a, b⟩ | ⟨a, b⟩
    · simp [a, b] at h2
    · simp [a] at h4; omega
    · simp [a] at h5; omega
/-- .. from the right -/
theorem bad_cons {l : List UInt8} {c : UInt8} (h : (isD c = false ∧ isP c = false) ∨ (isD c = true ∧ 18 ≤ nD l) ∨ (isP c = true ∧ 1 ≤ nP l)) (r : List UInt8) : good (r ++ c :: l) = false := by
  cases hg : good (r ++ c :: l)
  · rfl
  · exfalso
    have := good_iff.1 hg
    rw [okc_append, okc_cons, nD_append, nD_cons, nP_append, nP_cons] at this
    simp only [Bool.and_eq_true] at this
    obtain ⟨⟨h1, h2, h3⟩, h4, h5⟩ := this
    rcases h with ⟨a, b⟩ | ⟨a, b⟩ | ⟨a, b⟩
    · simp [a, b] at h2
    · simp [a] at h4; omega
    · simp [a] at h5; omega
theorem good_cons_digit {l : List UInt8} {c : UInt8} (h : good l = true) (hc : isD c = true) (hn : nD l < 18) : good (c :: l) = true ∧ nD (c :: l) = nD l + 1 ∧ nP (c :: l) = nP l ∧ val (c :: l) = dig c * 10 ^ nD l + val l := by
  have hp := isP_of_isD hc
  have hg := good_iff.1 h
  have e1 : nD (c :: l) = nD l + 1 := by simp [nD_cons, hc]; omega
  have e2 : nP (c :: l) = nP l := by simp [nP_cons, hp]
  refine ⟨good_iff.2 ⟨by simp [okc_cons, hg.1, hc], by omega, by omega⟩, e1, e2, ?_⟩
  rw [val_cons]; simp [hc]
theorem good_cons_point {l : List UInt8} {c : UInt8} (h : good l = true) (hc : isP c = true) (hn : nP l = 0) : good (c :: l) = true ∧ nD (c :: l) = nD l ∧ nP (c :: l) = 1 ∧ val (c :: l) = val l := by
  have hd := isD_of_isP hc
  have hg := good_iff.1 h
  have e1 : nD (c :: l) = nD l := by simp [nD_cons, hd]
  have e2 : nP (c :: l) = 1 := by simp [nP_cons, hc, hn]
  refine ⟨good_iff.2 ⟨by simp [okc_cons, hg.1, hc], by omega, by omega⟩, e1, e2, ?_⟩
  rw [val_cons]; simp [hd]

/-! ### Where the point stands -/
def At (l : List UInt8) (p : Int) : Prop := (p = -1 ∧ nP l = 0) ∨ ∃ a c b, l = a ++ c :: b ∧ isP c = true ∧ p = a.length ∧ nP b = 0 ∧ nP l = 1
theorem at_nil : At [] (-1) := .inl ⟨rfl, rfl⟩
theorem At.digit {l : List UInt8} {p : Int} {c : UInt8} (h : At l p) (hc : isD c = true) : At (l ++ [c]) p := by
  have hp := isP_of_isD hc
  rcases h with ⟨h1, h2⟩ | ⟨a, d, b, rfl, h2, h3, h4, h5⟩
  · exact .inl ⟨h1, by simp [nP_append, nP_one, hp, h2]⟩
  · exact .inr ⟨a, d, b ++ [c], by simp, h2, h3, by simp [nP_append, nP_one, hp, h4], by rw [nP_append, nP_one, h5]; simp [hp]⟩
theorem At.point {l : List UInt8} {p : Int} {c : UInt8} (h : At l p) (hc : isP c = true) (hp : p < 0) : At (l ++ [c]) l.length := by
  rcases h with ⟨h1, h2⟩ | ⟨a, d, b, rfl, h2, h3, h4, h5⟩
  · exact .inr ⟨l, c, [], rfl, hc, rfl, rfl, by simp [nP_append, nP_one, hc, h2]⟩
  · omega
theorem At.range {l : List UInt8} {p : Int} (h : At l p) : -1 ≤ p ∧ p < l.length := by
  rcases h with ⟨h1, h2⟩ | ⟨a, d, b, rfl, h2, h3, h4, h5⟩
  · omega
  · simp; omega
theorem At.none {l : List UInt8} {p : Int} (h : At l p) : p < 0 ↔ nP l = 0 := by
  rcases h with ⟨h1, h2⟩ | ⟨a, d, b, rfl, h2, h3, h4, h5⟩
  · simp [h1, h2]
  · constructor
    · intro; omega
    · intro h; omega
theorem trail_append_cons (a : List UInt8) (c : UInt8) (b : List UInt8) (hc : isP c = true) (hb : nP b = 0) : trail (a ++ c :: b) = decide (b = []) := by
  cases b with
  | nil => simp [trail, hc]
  | cons x xs =>
    have h2 : ∀ y ∈ x :: xs, isP y = false := by
      intro y hy
      cases hq : isP y
      · rfl
      · have h0 : ((x :: xs).filter isP) = [] := List.length_eq_zero_iff.1 hb
        have := List.mem_filter.2 ⟨hy, hq⟩
        rw [h0] at this; cases this
    obtain ⟨y, hy⟩ : ∃ y, (x :: xs).getLast? = some y := ⟨_, List.getLast?_eq_some_getLast (by simp)⟩
    have e : (a ++ c :: x :: xs).getLast? = some y := by simp [hy]
    unfold trail
    rw [e]
    have := h2 y (List.mem_of_getLast? hy)
    simp [this]
/-- How many bytes follow the point: none, just where the bytes write a whole number. -/
theorem At.whole {l : List UInt8} {p : Int} (h : At l p) (h0 : 0 ≤ p) : decide ((l.length : Int) - p - 1 = 0) = (decide (nP l = 0) || trail l) := by
  rcases h with ⟨h1, h2⟩ | ⟨a, d, b, rfl, h2, h3, h4, h5⟩
  · omega
  · rw [trail_append_cons a d b h2 h4, h5]
    subst h3
    cases b with
    | nil => simp; omega
    | cons x xs => simp; omega

/-! ### The laws -/
theorem puB_good {l : List UInt8} (h : puB l = true) : good l = true := by simp [puB] at h; exact h.1.1
theorem good_point {l : List UInt8} {c : UInt8} (hc : isP c = true) : good (l ++ [c]) = (good l && decide (nP l = 0)) := by
  cases hg : good l
  · simp only [Bool.false_and]
    cases hq : good (l ++ [c])
    · rfl
    · rw [(good_mono hq).1] at hg; cases hg
  · by_cases hn : nP l = 0
    · rw [(good_snoc_point hg hc hn).1]; simp [hn]
    · rw [bad_snoc (.inr (.inr ⟨hc, by omega⟩)) []]; simp [hn]
theorem pu_point_has {l : List UInt8} {c : UInt8} (hc : isP c = true) (h : nP l ≠ 0) : puV (l ++ [c]) = 0 ∧ puB (l ++ [c]) = false := by
  have : good (l ++ [c]) = false := by rw [good_point hc]; simp [h]
  simp [puV, puB, this]
theorem pu_point_none {l : List UInt8} {c : UInt8} (hc : isP c = true) (h : nP l = 0) : puV (l ++ [c]) = puV l ∧ puB (l ++ [c]) = puB l := by
  have hg : good (l ++ [c]) = good l := by rw [good_point hc]; simp [h]
  have hd := isD_of_isP hc
  have e1 : nD (l ++ [c]) = nD l := by simp [nD_append, nD_one, hd]
  have e3 : val (l ++ [c]) = val l := by rw [val_append, nD_one, val_one]; simp [hd]
  have e4 : trail (l ++ [c]) = true := by simp [trail, hc]
  refine ⟨by simp [puV, hg, e3], by simp [puB, hg, e1, e4, h]⟩

/-! ### The whole form, as zzWholeForm looks for it -/
def okW (len : Nat) : Nat → List UInt8 → Bool
  | _, [] => true
  | i, c :: r => (isD c || (isP c && decide (i + 1 = len))) && okW len (i + 1) r
theorem nP_zero_not {l : List UInt8} (h : nP l = 0) : ∀ y ∈ l, isP y = false := by
  intro y hy
  cases hq : isP y
  · rfl
  · have h0 : (l.filter isP) = [] := List.length_eq_zero_iff.1 h
    have := List.mem_filter.2 ⟨hy, hq⟩
    rw [h0] at this; cases this
theorem trail_none {l : List UInt8} (h : nP l = 0) : trail l = false := by
  unfold trail
  cases hl : l.getLast? with
  | none => rfl
  | some y => simpa using nP_zero_not h y (List.mem_of_getLast? hl)
theorem trail_tail {a b : List UInt8} (h : b ≠ []) : trail (a ++ b) = trail b := by
  unfold trail
  obtain ⟨y, hy⟩ : ∃ y, b.getLast? = some y := ⟨_, List.getLast?_eq_some_getLast h⟩
  simp [hy]
theorem okW_iff (len : Nat) : ∀ (r : List UInt8) (i : Nat), i + r.length = len → (okW len i r = true ↔ okc r = true ∧ (nP r = 0 ∨ (nP r = 1 ∧ trail r = true)))
  | [], i, _ => by simp [okW, okc, nP]
  | c :: r, i, h => by
    have ih := okW_iff len r (i + 1) (by simp at h; omega)
    simp only [okW, Bool.and_eq_true, ih, okc_cons, nP_cons]
    cases hd : isD c
    · cases hp : isP c
      · simp
      · cases r with
        | nil => simp at h; simp [okc, nP, trail, hp, h]
        | cons x xs =>
          have ht : trail (c :: x :: xs) = trail (x :: xs) := trail_tail (a := [c]) (by simp)
          have hne : i + 1 ≠ len := by simp at h; omega
          rw [ht]
          simp only [Bool.false_or, Bool.true_and, hne, decide_false, Bool.false_eq_true, false_and, if_true, false_iff]
          rintro ⟨_, h1 | ⟨h1, h2⟩⟩
          · omega
          · rw [trail_none (by omega)] at h2; cases h2
    · have hp := isP_of_isD hd
      cases r with
      | nil => simp [okc, nP, hp]
      | cons x xs =>
        have ht : trail (c :: x :: xs) = trail (x :: xs) := trail_tail (a := [c]) (by simp)
        rw [ht]
        simp [hp]
/-- ParseUnits accepts just the whole form. -/
theorem puB_okW (l : List UInt8) : puB l = (okW l.length 0 l && decide (1 ≤ nD l) && decide (nD l ≤ 18)) := by
  rw [Bool.eq_iff_iff]
  simp only [Bool.and_eq_true, okW_iff l.length l 0 (by omega), puB, good_iff, decide_eq_true_eq, Bool.or_eq_true]
  constructor
  · rintro ⟨⟨⟨h1, h2, h3⟩, h4⟩, h5⟩
    refine ⟨⟨⟨h1, ?_⟩, by omega⟩, h2⟩
    rcases h5 with h5 | h5
    · exact .inl h5
    · refine .inr ⟨?_, h5⟩
      rcases Nat.eq_zero_or_pos (nP l) with h6 | h6
      · rw [trail_none h6] at h5; cases h5
      · omega
  · rintro ⟨⟨⟨h1, h2⟩, h3⟩, h4⟩
    refine ⟨⟨⟨h1, h4, by omega⟩, by omega⟩, ?_⟩
    rcases h2 with h2 | h2
    · exact .inl h2
    · exact .inr h2.2
/-- Cut anywhere. -/
theorem pu_cut {a b : List UInt8} (h : puB (a ++ b) = true) :
    puB a = decide (0 < nD a) ∧ puB b = decide (0 < nD b) ∧ puV (a ++ b) = puV a * 10 ^ nD b + puV b ∧ nD (a ++ b) ≤ 18 := by
  have hg := puB_good h
  obtain ⟨ga, gb⟩ := good_mono hg
  have hq : nP (a ++ b) = 0 ∨ trail (a ++ b) = true := by
    simp [puB] at h; exact h.2
  have hle := (good_iff.1 hg).2.2
  rw [nP_append] at hle hq
  have ha : nP a = 0 ∨ trail a = true := by
    rcases hq with hq | hq
    · exact .inl (by omega)
    · cases b with
      | nil => right; simpa using hq
      | cons x xs =>
        rw [trail_tail (by simp)] at hq
        left
        rcases Nat.eq_zero_or_pos (nP (x :: xs)) with h6 | h6
        · rw [trail_none h6] at hq; cases hq
        · omega
  have hb : nP b = 0 ∨ trail b = true := by
    rcases hq with hq | hq
    · exact .inl (by omega)
    · cases b with
      | nil => exact .inl rfl
      | cons x xs => right; rwa [trail_tail (by simp)] at hq
  refine ⟨?_, ?_, ?_, (good_iff.1 hg).2.1⟩
  · rcases ha with ha | ha <;> simp [puB, ga, ha]
  · rcases hb with hb | hb <;> simp [puB, gb, hb]
  · simp [puV, hg, ga, gb, val_append]
end Go.Proofs.Qxb6627644a
