/-
  ParseUnits (7), zzHasPoint (8), the size guard (5), zzUnitsModel (6).
-/
import Derived.Test.Qxb6627644aWalksA
namespace Go.Proofs.Qxb6627644a
open Go.RowKit

theorem puB_eq {l : List UInt8} {f : Int} (h : good l = true → decide (f = 0) = (decide (nP l = 0) || trail l)) : puB l = (dOk l && decide (f = 0)) := by
  unfold puB dOk
  cases hg : good l
  · rfl
  · rw [h hg]

theorem parse_any (s : ByteArray) (w : World) (hs : s.size ≤ 2097152) (l : List UInt8) (hl : l = s.data.toList) :
    Calls Try.prog 7 #[.string s] w fun e w' => e = .returned (.tuple #[.int .i64 (puV l), .bool (puB l)]) ∧ w' = w := by
  go_enter Try.func7, Try.ntmps7
  go_wp2_with fail
  refine (digits_any s _ hs l hl).mono ?_
  rintro e w' ⟨⟨f, rfl, HF⟩, rfl⟩
  have hB := puB_eq (unhide HF)
  have HB := hide hB
  clear hB hl HF
  cases hD : dOk l
  · go_wp2
    go_ret2
    exact ⟨ret_two rfl (by rw [unhide HB, hD]; rfl), rfl⟩
  · by_cases hf : f = 0
    · subst hf
      go_wp2
      go_ret2
      exact ⟨ret_two rfl (by rw [unhide HB, hD]; rfl), rfl⟩
    · have hf0 : (f == 0) = false := beq_eq_false_iff_ne.2 hf
      have HF := hide hf
      clear hf
      go_wp2
      go_ret2
      exact ⟨ret_two rfl (by rw [unhide HB, hD]; simp [unhide HF]), rfl⟩

theorem point_any (s : ByteArray) (w : World) (hs : s.size ≤ 2097152) (l : List UInt8) (hl : l = s.data.toList) :
    Calls Try.prog 8 #[.string s] w fun e w' => e = .returned (.bool (decide (0 < nP l))) ∧ w' = w := by
  have HL := hide hl
  clear hl
  go_enter Try.func8, Try.ntmps8
  go_wp2
  go_loop [3] (fun i => ∃ k : Nat, k ≤ s.size ∧ i = .int .i64 k ∧ Hid (nP (l.take k) = 0)) (fun i => s.size - (intOf i).toNat)
  case atStart => exact ⟨0, Nat.zero_le _, rfl, hide rfl⟩
  case round =>
    obtain ⟨k, hk, rfl, HR⟩ := hrel
    by_cases hlt : k < s.size
    · have hts := take_snoc s k hlt
      have hsp := split_at s k hlt
      rw [← unhide HL] at hts hsp
      have HT := hide hts
      have HS := hide hsp
      clear hts hsp
      cases hp : isP s[k]
      · have hb1 : s[k].toNat ≠ 46 := fun h => by rw [isP_iff.2 h] at hp; cases hp
        have hb46 : ((s[k].toNat : Int) == 46) = false := beq_eq_false_iff_ne.2 (by omega)
        have HN : Hid (nP (l.take (k + 1)) = 0) := hide (by rw [unhide HT, nP_append, nP_one, unhide HR]; simp [hp])
        clear hb1 hp
        go_wp2
        go_round
        case rel => exact ⟨k + 1, by omega, by go_num, HN⟩
        case measure => simp [intOf]; omega
      · have hb1 := isP_iff.1 hp
        have hb46 : ((s[k].toNat : Int) == 46) = true := beq_iff_eq.2 (by omega)
        have HN : Hid (0 < nP l) := hide (by rw [unhide HS, nP_append, nP_cons]; simp [hp]; omega)
        clear hb1 hp
        go_wp2
        go_ret
        exact ⟨ret_bool (by simp [unhide HN]), rfl⟩
    · have hkk : l.take k = l := List.take_of_length_le (by rw [unhide HL]; simp; omega)
      rw [hkk] at HR
      clear hkk
      go_wp2
      go_ret
      exact ⟨ret_bool (by rw [unhide HR]; rfl), rfl⟩

def IsBool (e : Ending) : Prop := ∃ b : Bool, e = .returned (.bool b)
theorem isBool (b : Bool) : IsBool (.returned (.bool b)) := ⟨b, rfl⟩
theorem guard5_any (s : ByteArray) (w : World) : Calls Try.prog 5 #[.string s] w fun e w' => IsBool e ∧ w' = w := by
  go_enter Try.func5, Try.ntmps5
  go_wp2
  all_goals (go_ret; exact ⟨isBool _, rfl⟩)
theorem guard9_any (s : ByteArray) (k : Int) (w : World) : Calls Try.prog 9 #[.string s, .int .i64 k] w fun e w' => IsBool e ∧ w' = w := by
  go_enter Try.func9, Try.ntmps9
  go_wp2
  all_goals (go_ret; exact ⟨isBool _, rfl⟩)

/-! ### the model -/
theorem drop_cons (s : ByteArray) (k : Nat) (h : k < s.size) : s.data.toList.drop k = s[k] :: s.data.toList.drop (k + 1) := by
  rw [List.drop_eq_getElem_cons (by simpa using h)]; rfl
theorem trail_cons (c : UInt8) (r : List UInt8) : trail (c :: r) = if r = [] then isP c else trail r := by
  cases r with
  | nil => simp [trail]
  | cons x xs => rw [if_neg (by simp)]; exact trail_tail (a := [c]) (by simp)
def MRel (r : List UInt8) (V PL N C : Nat) (T : Bool) : Prop := V = val r ∧ PL = 10 ^ nD r ∧ N = nD r ∧ C = nP r ∧ T = trail r ∧ good r = true

theorem model_step {c PL V : Nat} (h48 : 48 ≤ c) (h57 : c ≤ 57) (hPL : PL ≤ 100000000000000000) (hV : V < 1000000000000000000) :
    wrap64 ((V : Int) + wrap64 (((c : Int) - 48) * (PL : Int))) = (((c - 48) * PL + V : Nat) : Int) := by
  obtain ⟨d, rfl⟩ : ∃ d, c = d + 48 := ⟨c - 48, by omega⟩
  have e : ((d + 48 : Nat) : Int) - 48 = (d : Int) := by omega
  rw [e, show d + 48 - 48 = d by omega]
  have h1 : d * PL ≤ 9 * PL := Nat.mul_le_mul_right _ (by omega)
  have h2 : ((d * PL : Nat) : Int) = (d : Int) * (PL : Int) := by simp
  rw [← h2]
  generalize d * PL = x at *
  unfold wrap64
  omega
theorem mrel_le {r : List UInt8} {V PL N C : Nat} {T : Bool} (h : MRel r V PL N C T) (hn : N < 18) : PL ≤ 100000000000000000 ∧ V < 100000000000000000 := by
  obtain ⟨hV, hPL, hN, hC, hT, hg⟩ := h
  have h17 := pow_mono (show nD r ≤ 17 by omega)
  exact ⟨by rw [hPL]; exact h17, by rw [hV]; exact val_lt17 (by omega)⟩
theorem mrel_digit {r : List UInt8} {V PL N C : Nat} {T : Bool} {c : UInt8} (h : MRel r V PL N C T) (hc : isD c = true) (hn : N < 18) : MRel (c :: r) ((c.toNat - 48) * PL + V) (PL * 10) (N + 1) C T := by
  obtain ⟨hV, hPL, hN, hC, hT, hg⟩ := h
  have hs := good_cons_digit hg hc (by omega)
  refine ⟨by rw [hs.2.2.2, hV, hPL]; rfl, by rw [hs.2.1, hPL, Nat.pow_succ], by rw [hs.2.1, hN], by rw [hs.2.2.1, hC], ?_, hs.1⟩
  rw [trail_cons, hT]
  split
  · rename_i hr; subst hr; rw [isP_of_isD hc]; rfl
  · rfl
theorem mrel_point {r : List UInt8} {V PL N C : Nat} {T : Bool} {c : UInt8} (h : MRel r V PL N C T) (hc : isP c = true) (h0 : C = 0) : MRel (c :: r) V PL N 1 (if r = [] then true else T) := by
  obtain ⟨hV, hPL, hN, hC, hT, hg⟩ := h
  have hs := good_cons_point hg hc (by omega)
  refine ⟨by rw [hs.2.2.2, hV], by rw [hs.2.1, hPL], by rw [hs.2.1, hN], by rw [hs.2.2.1], ?_, hs.1⟩
  rw [trail_cons, hc, hT]
theorem mrel_end {l : List UInt8} {V PL N C : Nat} {T : Bool} (h : MRel l V PL N C T) : ((N = 0 → puV l = 0 ∧ puB l = false) ∧ (N ≠ 0 → puV l = V ∧ puB l = (decide (C = 0) || T))) := by
  obtain ⟨hV, hPL, hN, hC, hT, hg⟩ := h
  refine ⟨fun h => ?_, fun h => ?_⟩
  · have h0 : nD l = 0 := by omega
    simp [puV, puB, hg, h0, val_zero h0]
  · have h0 : 0 < nD l := by omega
    simp [puV, puB, hg, h0, hV, hC, hT]

set_option maxHeartbeats 800000 in
theorem model_any (s : ByteArray) (w : World) (hs : s.size ≤ 2097152) (l : List UInt8) (hl : l = s.data.toList) :
    Calls Try.prog 6 #[.string s] w fun e w' => e = .returned (.tuple #[.int .i64 (puV l), .bool (puB l)]) ∧ w' = w := by
  have HL := hide hl
  clear hl
  go_enter Try.func6, Try.ntmps6
  go_wp2
  go_loop [4, 5, 6, 7, 8, 9] (fun v pl n c t i => ∃ (k V PL N C : Nat) (T : Bool), k ≤ s.size ∧ i = .int .i64 ((k : Int) - 1) ∧ v = .int .i64 V ∧ pl = .int .i64 PL ∧ n = .int .i64 N ∧ c = .int .i64 C ∧ t = .bool T ∧ Hid (MRel (l.drop k) V PL N C T)) (fun _ _ _ _ _ i => (intOf i + 1).toNat)
  case atStart => exact ⟨s.size, 0, 1, 0, 0, false, Nat.le_refl _, rfl, rfl, rfl, rfl, rfl, rfl, hide (by rw [List.drop_eq_nil_of_le (by rw [unhide HL]; simp)]; exact ⟨rfl, rfl, rfl, rfl, rfl, rfl⟩)⟩
  case round =>
    obtain ⟨k, V, PL, N, C, T, hk, rfl, rfl, rfl, rfl, rfl, rfl, HR⟩ := hrel
    obtain ⟨hV, hPL, hN, hC, hT, hg⟩ := unhide HR
    have hN18 : N ≤ 18 := by rw [hN]; exact (good_iff.1 hg).2.1
    have hC1 : C ≤ 1 := by rw [hC]; exact (good_iff.1 hg).2.2
    have hV18 : V < 1000000000000000000 := by rw [hV]; exact val_lt18 (good_iff.1 hg).2.1
    cases k with
    | zero =>
      have hE := mrel_end (unhide HR)
      rw [List.drop_zero] at hE
      clear hV hPL hN hC hT hg HR
      by_cases hn0 : N = 0
      · have H1 := hide (hE.1 hn0).1
        have H2 := hide (hE.1 hn0).2
        clear hE
        subst hn0
        go_wp2
        go_ret2
        exact ⟨ret_two (by rw [unhide H1]; rfl) (unhide H2).symm, rfl⟩
      · have hnb : ((N : Int) == 0) = false := beq_eq_false_iff_ne.2 (by omega)
        have H1 := hide (hE.2 hn0).1
        have h2 := (hE.2 hn0).2
        clear hE hn0
        by_cases hc0 : C = 0
        · have H2 : Hid (puB l = true) := hide (by rw [h2]; simp [hc0])
          clear h2
          subst hc0
          go_wp2
          go_ret2
          exact ⟨ret_two (by rw [unhide H1]) (unhide H2).symm, rfl⟩
        · have hcb : ((C : Int) == 0) = false := beq_eq_false_iff_ne.2 (by omega)
          have H2 : Hid (puB l = T) := hide (by rw [h2]; simp [hc0])
          clear h2 hc0
          go_wp2
          go_ret2
          exact ⟨ret_two (by rw [unhide H1]) (unhide H2).symm, rfl⟩
    | succ j =>
      have hlt : j < s.size := by omega
      have hdc := drop_cons s j hlt
      have hsp := split_at s j hlt
      rw [← unhide HL] at hdc hsp
      have HD := hide hdc
      have HS := hide hsp
      have HLL : Hid (l.drop (j + 1) = [] ↔ s.size = j + 1) := hide (by rw [List.drop_eq_nil_iff, unhide HL]; simp; omega)
      clear hdc hsp
      cases hd : isD s[j]
      · have hb0 : ¬ (48 ≤ s[j].toNat ∧ s[j].toNat ≤ 57) := fun h => by rw [isD_iff.2 h] at hd; cases hd
        cases hp : isP s[j]
        · have hb1 : s[j].toNat ≠ 46 := fun h => by rw [isP_iff.2 h] at hp; cases hp
          have hbad : good l = false := by rw [unhide HS]; exact bad_snoc (.inl ⟨hd, hp⟩) _
          have HB := hide hbad
          have hb46 : ((s[j].toNat : Int) == 46) = false := beq_eq_false_iff_ne.2 (by omega)
          clear hbad hd hp hV hPL hN hC hT hg
          rcases (show (s[j].toNat : Int) < 48 ∨ (57 : Int) < s[j].toNat by omega) with hb2 | hb2
          · clear hb0 hb1
            go_wp2
            go_ret2
            exact ⟨ret_two (bad_v (unhide HB)) (by simp [puB, unhide HB]), rfl⟩
          · clear hb0 hb1
            go_wp2
            go_ret2
            exact ⟨ret_two (bad_v (unhide HB)) (by simp [puB, unhide HB]), rfl⟩
        · have hb1 := isP_iff.1 hp
          have hb46 : ((s[j].toNat : Int) == 46) = true := beq_iff_eq.2 (by omega)
          by_cases hc0 : C = 0
          · subst hc0
            have hm := mrel_point (unhide HR) hp rfl
            rw [← unhide HD] at hm
            have HM := hide hm
            clear hm hd hp hV hPL hN hC hT hg hb0 hb1
            by_cases hlast : s.size = j + 1
            · have hlb : ((j : Int) == (s.size : Int) - 1) = true := beq_iff_eq.2 (by omega)
              rw [if_pos ((unhide HLL).2 hlast)] at HM
              have HLA := hide hlast
              clear hlast
              go_wp2
              go_round
              case rel => exact ⟨j, V, PL, N, 1, true, by omega, rfl, rfl, rfl, rfl, rfl, rfl, HM⟩
              case measure => simp [intOf]
            · have hlb : ((j : Int) == (s.size : Int) - 1) = false := beq_eq_false_iff_ne.2 (by omega)
              rw [if_neg (fun h => hlast ((unhide HLL).1 h))] at HM
              have HLA := hide hlast
              clear hlast
              go_wp2
              go_round
              case rel => exact ⟨j, V, PL, N, 1, T, by omega, rfl, rfl, rfl, rfl, rfl, rfl, HM⟩
              case measure => simp [intOf]
          · have hbad : good l = false := by rw [unhide HS]; exact bad_cons (.inr (.inr ⟨hp, by omega⟩)) _
            have HB := hide hbad
            have hc1 : (1 : Int) ≤ (C : Int) := by omega
            clear hbad hd hp hV hPL hN hC hT hg hb0 hb1 hc0
            go_wp2
            go_ret2
            exact ⟨ret_two (bad_v (unhide HB)) (by simp [puB, unhide HB]), rfl⟩
      · have hb := isD_iff.1 hd
        have hb1 : (48 : Int) ≤ (s[j].toNat : Int) := by omega
        have hb2 : (s[j].toNat : Int) ≤ 57 := by omega
        have hb46 : ((s[j].toNat : Int) == 46) = false := beq_eq_false_iff_ne.2 (by omega)
        by_cases hn : N < 18
        · have hm := mrel_digit (unhide HR) hd hn
          rw [← unhide HD] at hm
          have HM := hide hm
          have hle := mrel_le (unhide HR) hn
          obtain ⟨hPL17, hV17⟩ := hle
          have HST := hide (model_step hb.1 hb.2 hPL17 hV18)
          clear hm hV hPL hN hC hT hg hd hb
          go_wp2
          go_round
          case rel => exact ⟨j, (s[j].toNat - 48) * PL + V, PL * 10, N + 1, C, T, by omega, rfl, by rw [unhide HST], by go_num, by go_num, rfl, rfl, HM⟩
          case measure => simp [intOf]
        · have hbad : good l = false := by rw [unhide HS]; exact bad_cons (.inr (.inl ⟨hd, by omega⟩)) _
          have HB := hide hbad
          clear hbad hV hPL hN hC hT hg hd hb
          go_wp2
          go_ret2
          exact ⟨ret_two (bad_v (unhide HB)) (by simp [puB, unhide HB]), rfl⟩
end Go.Proofs.Qxb6627644a
