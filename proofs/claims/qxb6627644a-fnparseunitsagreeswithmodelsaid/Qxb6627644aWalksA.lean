/-
  digits (13), ParseUnits (7).
-/
import Derived.Test.Qxb6627644aRows
import Derived.Test.Qxb6627644aPlain
import Derived.WalkKit
import Derived.WalkSpells
import Derived.WalkLawsBesides
namespace Go.Proofs.Qxb6627644a
open Go.RowKit

theorem hide {p : Prop} (h : p) : Hid p := h
theorem unhide {p : Prop} (h : Hid p) : p := h
theorem ret_int {k : IntKind} {a b : Int} (h : a = b) : Ending.returned (.int k a) = .returned (.int k b) := by rw [h]
theorem ret_bool {a b : Bool} (h : a = b) : Ending.returned (.bool a) = .returned (.bool b) := by rw [h]
theorem take_snoc (s : ByteArray) (k : Nat) (h : k < s.size) : s.data.toList.take (k + 1) = s.data.toList.take k ++ [s[k]] := by
  rw [List.take_succ_eq_append_getElem (by simpa using h)]; rfl
theorem split_at (s : ByteArray) (k : Nat) (h : k < s.size) : s.data.toList = s.data.toList.take k ++ s[k] :: s.data.toList.drop (k + 1) := by
  have := List.take_append_drop k s.data.toList
  rw [List.drop_eq_getElem_cons (by simpa using h)] at this
  exact this.symm

theorem ret_three {a a' f : Int} {b b' : Bool} (h : a = a') (h' : b = b') : Ending.returned (.tuple #[.int .i64 a, .int .i64 f, .bool b]) = .returned (.tuple #[.int .i64 a', .int .i64 f, .bool b']) := by rw [h, h']
theorem ret_two {a a' : Int} {b b' : Bool} (h : a = a') (h' : b = b') : Ending.returned (.tuple #[.int .i64 a, .bool b]) = .returned (.tuple #[.int .i64 a', .bool b']) := by rw [h, h']
def dOk (l : List UInt8) : Bool := good l && decide (0 < nD l)
theorem bad_v {l : List UInt8} (h : good l = false) : (0 : Int) = (puV l : Int) := by simp [puV, h]
theorem bad_b {l : List UInt8} (h : good l = false) : false = dOk l := by simp [dOk, h]
theorem good_v {l : List UInt8} {V : Nat} (h : good l = true) (hV : V = val l) : (V : Int) = (puV l : Int) := by simp [puV, h, hV]

set_option maxHeartbeats 800000 in
theorem digits_any (s : ByteArray) (w : World) (hs : s.size ≤ 2097152) (l : List UInt8) (hl : l = s.data.toList) :
    Calls Try.prog 13 #[.string s] w fun e w' => (∃ f : Int, e = .returned (.tuple #[.int .i64 (puV l), .int .i64 f, .bool (dOk l)]) ∧ Hid (good l = true → decide (f = 0) = (decide (nP l = 0) || trail l))) ∧ w' = w := by
  have HL := hide hl
  clear hl
  go_enter Try.func13, Try.ntmps13
  go_wp2
  go_loop [2, 3, 5, 6, 11] (fun co fr n pt i => ∃ (k V N : Nat) (p : Int), k ≤ s.size ∧ fr = .int .i64 0 ∧ i = .int .i64 k ∧ co = .int .i64 V ∧ n = .int .i64 N ∧ pt = .int .i64 p ∧ Hid (V = val (l.take k) ∧ N = nD (l.take k) ∧ good (l.take k) = true ∧ At (l.take k) p)) (fun _ _ _ _ i => s.size - (intOf i).toNat)
  case atStart => exact ⟨0, 0, 0, -1, Nat.zero_le _, rfl, rfl, rfl, rfl, rfl, hide ⟨rfl, rfl, rfl, at_nil⟩⟩
  case round =>
    obtain ⟨k, V, N, p, hk, rfl, rfl, rfl, rfl, rfl, HR⟩ := hrel
    obtain ⟨hV, hN, hg, hat⟩ := unhide HR
    have hN18 : N ≤ 18 := by rw [hN]; exact (good_iff.1 hg).2.1
    have hV18 : V < 1000000000000000000 := by rw [hV]; exact val_lt18 (good_iff.1 hg).2.1
    have hrng := hat.range
    have hp1 : -1 ≤ p := hrng.1
    have hll : l.length = s.size := by rw [unhide HL]; simp
    have hp2 : p < k := by have := hrng.2; simp at this; omega
    have HLL := hide hll
    clear hrng hll
    by_cases hlt : k < s.size
    · have hts := take_snoc s k hlt
      rw [← unhide HL] at hts
      have HT := hide hts
      have hsp := split_at s k hlt
      rw [← unhide HL] at hsp
      have HS := hide hsp
      clear hts hsp
      cases hd : isD s[k]
      · have hb0 : ¬ (48 ≤ s[k].toNat ∧ s[k].toNat ≤ 57) := fun h => by rw [isD_iff.2 h] at hd; cases hd
        cases hp : isP s[k]
        · have hb1 : s[k].toNat ≠ 46 := fun h => by rw [isP_iff.2 h] at hp; cases hp
          have hbad : good l = false := by rw [unhide HS]; exact bad_snoc (.inl ⟨hd, hp⟩) _
          have HB := hide hbad
          have hb46 : ((s[k].toNat : Int) == 46) = false := beq_eq_false_iff_ne.2 (by omega)
          clear hbad hd hp hV hN hg hat
          rcases (show (s[k].toNat : Int) < 48 ∨ (57 : Int) < s[k].toNat by omega) with hb2 | hb2
          · clear hb0 hb1
            go_wp2
            go_ret3
            exact ⟨⟨0, ret_three (bad_v (unhide HB)) (bad_b (unhide HB)), hide (fun h => by rw [unhide HB] at h; cases h)⟩, rfl⟩
          · clear hb0 hb1
            go_wp2
            go_ret3
            exact ⟨⟨0, ret_three (bad_v (unhide HB)) (bad_b (unhide HB)), hide (fun h => by rw [unhide HB] at h; cases h)⟩, rfl⟩
        · have hb1 := isP_iff.1 hp
          have hb2 : (s[k].toNat : Int) < 48 := by omega
          have hb46 : ((s[k].toNat : Int) == 46) = true := beq_iff_eq.2 (by omega)
          by_cases hpt : p < 0
          · have hn0 := hat.none.1 hpt
            have hgs := good_snoc_point hg hp hn0
            have hap := hat.point hp hpt
            rw [← unhide HT] at hgs hap
            rw [show (l.take k).length = k by have := unhide HLL; simp; omega] at hap
            have HG := hide hgs
            have HA := hide hap
            have HV := hide hV
            have HN := hide hN
            clear hgs hap hd hp hV hN hg hat hb0 hb1 hn0
            go_wp2
            go_round
            case rel => exact ⟨k + 1, V, N, k, by omega, rfl, by go_num, rfl, rfl, rfl, hide ⟨by rw [(unhide HG).2.2.2]; exact unhide HV, by rw [(unhide HG).2.1]; exact unhide HN, (unhide HG).1, unhide HA⟩⟩
            case measure => simp [intOf]; omega
          · have hbad : good l = false := by
              rw [unhide HS]
              refine bad_snoc (.inr (.inr ⟨hp, ?_⟩)) _
              have := mt hat.none.2 hpt
              omega
            have HB := hide hbad
            clear hbad hd hp hV hN hg hat hb0 hb1
            go_wp2
            go_ret3
            exact ⟨⟨0, ret_three (bad_v (unhide HB)) (bad_b (unhide HB)), hide (fun h => by rw [unhide HB] at h; cases h)⟩, rfl⟩
      · have hb := isD_iff.1 hd
        have hb1 : (48 : Int) ≤ (s[k].toNat : Int) := by omega
        have hb2 : (s[k].toNat : Int) ≤ 57 := by omega
        by_cases hn : N < 18
        · have hV17 : V < 100000000000000000 := by rw [hV]; exact val_lt17 (by omega)
          have hgs := good_snoc_digit hg hd (by omega)
          have hap := hat.digit hd
          rw [← unhide HT] at hgs hap
          have HG := hide hgs
          have HA := hide hap
          have HV := hide hV
          have HN := hide hN
          clear hgs hap hd hV hN hg hat hb
          go_wp2
          go_round
          case rel => exact ⟨k + 1, V * 10 + dig s[k], N + 1, p, by omega, rfl, by go_num, (by unfold dig; congr 1; omega), by go_num, rfl, hide ⟨by rw [(unhide HG).2.2.2, ← unhide HV], by rw [(unhide HG).2.1, ← unhide HN], (unhide HG).1, unhide HA⟩⟩
          case measure => simp [intOf]; omega
        · have hbad : good l = false := by rw [unhide HS]; exact bad_snoc (.inr (.inl ⟨hd, by omega⟩)) _
          have HB := hide hbad
          have hb46 : ((s[k].toNat : Int) == 46) = false := beq_eq_false_iff_ne.2 (by omega)
          clear hbad hd hV hN hg hat hb
          go_wp2
          go_ret3
          exact ⟨⟨0, ret_three (bad_v (unhide HB)) (bad_b (unhide HB)), hide (fun h => by rw [unhide HB] at h; cases h)⟩, rfl⟩
    · have hkk : l.take k = l := List.take_of_length_le (by rw [unhide HLL]; omega)
      rw [hkk] at hV hN hg hat
      have HG := hide hg
      have HA := hide hat
      have HV := hide hV
      have HN := hide hN
      clear hV hN hg hat hkk
      by_cases hpt : p < 0
      · go_wp2
        go_ret3
        refine ⟨⟨_, ret_three (good_v (unhide HG) (unhide HV)) ?_, hide (fun _ => ?_)⟩, rfl⟩
        · simp [dOk, unhide HG, ← unhide HN]
        · rw [(unhide HA).none.1 hpt]; rfl
      · go_wp2
        go_ret3
        refine ⟨⟨_, ret_three (good_v (unhide HG) (unhide HV)) ?_, hide (fun _ => ?_)⟩, rfl⟩
        · simp [dOk, unhide HG, ← unhide HN]
        · rw [← (unhide HA).whole (by omega), unhide HLL]
end Go.Proofs.Qxb6627644a
