/-
  zzWholeForm (10), zzCountDigits (11), zzPow10 (12).
-/
import Derived.Test.Qxb6627644aWalksB
namespace Go.Proofs.Qxb6627644a
open Go.RowKit

theorem count_any (s : ByteArray) (w : World) (hs : s.size ≤ 2097152) (l : List UInt8) (hl : l = s.data.toList) :
    Calls Try.prog 11 #[.string s] w fun e w' => e = .returned (.int .i64 (nD l)) ∧ w' = w := by
  have HL := hide hl
  clear hl
  go_enter Try.func11, Try.ntmps11
  go_wp2
  go_loop [3, 4] (fun n i => ∃ k N : Nat, k ≤ s.size ∧ i = .int .i64 k ∧ n = .int .i64 N ∧ Hid (N = nD (l.take k))) (fun _ i => s.size - (intOf i).toNat)
  case atStart => exact ⟨0, 0, Nat.zero_le _, rfl, rfl, hide rfl⟩
  case round =>
    obtain ⟨k, N, hk, rfl, rfl, HR⟩ := hrel
    have hNk : N ≤ k := by rw [unhide HR]; exact Nat.le_trans (nD_le _) (by simp; omega)
    by_cases hlt : k < s.size
    · have hts := take_snoc s k hlt
      rw [← unhide HL] at hts
      have hn : nD (l.take (k + 1)) = N + if isD s[k] then 1 else 0 := by rw [hts, nD_append, nD_one, ← unhide HR]
      clear hts
      cases hd : isD s[k]
      · have hb0 : ¬ (48 ≤ s[k].toNat ∧ s[k].toNat ≤ 57) := fun h => by rw [isD_iff.2 h] at hd; cases hd
        rw [hd] at hn
        have HN := hide hn
        clear hn hd
        rcases (show (s[k].toNat : Int) < 48 ∨ (57 : Int) < s[k].toNat by omega) with hb2 | hb2
        · clear hb0
          go_wp2
          go_round
          case rel => exact ⟨k + 1, N, by omega, by go_num, rfl, hide (by rw [unhide HN]; simp)⟩
          case measure => simp [intOf]; omega
        · clear hb0
          go_wp2
          go_round
          case rel => exact ⟨k + 1, N, by omega, by go_num, rfl, hide (by rw [unhide HN]; simp)⟩
          case measure => simp [intOf]; omega
      · have hb := isD_iff.1 hd
        have hb1 : (48 : Int) ≤ (s[k].toNat : Int) := by omega
        have hb2 : (s[k].toNat : Int) ≤ 57 := by omega
        rw [hd] at hn
        have HN := hide hn
        clear hn hd hb
        go_wp2
        go_round
        case rel => exact ⟨k + 1, N + 1, by omega, by go_num, by go_num, hide (by rw [unhide HN]; simp)⟩
        case measure => simp [intOf]; omega
    · have hkk : l.take k = l := List.take_of_length_le (by rw [unhide HL]; simp; omega)
      rw [hkk] at HR
      clear hkk
      go_wp2
      go_ret
      exact ⟨ret_int (by rw [← unhide HR]), rfl⟩

def p10 (n : Nat) : Nat := 10 ^ n
theorem pow_any (n : Nat) (w : World) (hn : n ≤ 18) :
    Calls Try.prog 12 #[.int .i64 n] w fun e w' => e = .returned (.int .i64 (p10 n)) ∧ w' = w := by
  go_enter Try.func12, Try.ntmps12
  go_wp2
  go_loop [3, 4] (fun p i => ∃ k P : Nat, k ≤ n ∧ i = .int .i64 k ∧ p = .int .i64 P ∧ Hid (P = p10 k)) (fun _ i => n - (intOf i).toNat)
  case atStart => exact ⟨0, 1, Nat.zero_le _, rfl, rfl, hide rfl⟩
  case round =>
    obtain ⟨k, P, hk, rfl, rfl, HR⟩ := hrel
    by_cases hlt : k < n
    · have hP : P ≤ 100000000000000000 := by
        have h17 := pow_mono (show k ≤ 17 by omega)
        rw [unhide HR]; exact h17
      go_wp2
      go_round
      case rel => exact ⟨k + 1, P * 10, by omega, by go_num, by go_num, hide (by rw [unhide HR]; exact (Nat.pow_succ _ _).symm)⟩
      case measure => simp [intOf]; omega
    · obtain rfl : k = n := by omega
      go_wp2
      go_ret
      exact ⟨ret_int (by rw [unhide HR]), rfl⟩

set_option maxHeartbeats 800000 in
theorem whole_any (s : ByteArray) (w : World) (hs : s.size ≤ 2097152) (l : List UInt8) (hl : l = s.data.toList) :
    Calls Try.prog 10 #[.string s] w fun e w' => e = .returned (.bool (puB l)) ∧ w' = w := by
  have HL := hide hl
  clear hl
  go_enter Try.func10, Try.ntmps10
  go_wp2
  go_loop [3, 4] (fun n i => ∃ k N : Nat, k ≤ s.size ∧ i = .int .i64 k ∧ n = .int .i64 N ∧ Hid (N = nD (l.take k) ∧ okW s.size 0 l = okW s.size k (l.drop k))) (fun _ i => s.size - (intOf i).toNat)
  case atStart => exact ⟨0, 0, Nat.zero_le _, rfl, rfl, hide ⟨rfl, rfl⟩⟩
  case round =>
    obtain ⟨k, N, hk, rfl, rfl, HR⟩ := hrel
    have hNk : N ≤ k := by rw [(unhide HR).1]; exact Nat.le_trans (nD_le _) (by simp; omega)
    have HLL : Hid (l.length = s.size) := hide (by rw [unhide HL]; simp)
    by_cases hlt : k < s.size
    · have hts := take_snoc s k hlt
      have hdc := drop_cons s k hlt
      rw [← unhide HL] at hts hdc
      have hn : nD (l.take (k + 1)) = N + if isD s[k] then 1 else 0 := by rw [hts, nD_append, nD_one, ← (unhide HR).1]
      have ho : okW s.size 0 l = ((isD s[k] || (isP s[k] && decide (k + 1 = s.size))) && okW s.size (k + 1) (l.drop (k + 1))) := by rw [(unhide HR).2, hdc]; rfl
      have hfalse : okW s.size 0 l = false → puB l = false := fun h => by rw [puB_okW, unhide HLL, h]; rfl
      clear hts hdc HR
      cases hd : isD s[k]
      · have hb0 : ¬ (48 ≤ s[k].toNat ∧ s[k].toNat ≤ 57) := fun h => by rw [isD_iff.2 h] at hd; cases hd
        rw [hd] at hn ho
        cases hp : isP s[k]
        · have hb1 : s[k].toNat ≠ 46 := fun h => by rw [isP_iff.2 h] at hp; cases hp
          have hb46 : ((s[k].toNat : Int) == 46) = false := beq_eq_false_iff_ne.2 (by omega)
          rw [hp] at ho
          have HF := hide (hfalse ho)
          clear hfalse ho hn hd hp
          rcases (show (s[k].toNat : Int) < 48 ∨ (57 : Int) < s[k].toNat by omega) with hb2 | hb2
          · clear hb0 hb1
            go_wp2
            go_ret
            exact ⟨ret_bool (unhide HF).symm, rfl⟩
          · clear hb0 hb1
            go_wp2
            go_ret
            exact ⟨ret_bool (unhide HF).symm, rfl⟩
        · have hb1 := isP_iff.1 hp
          have hb2 : (s[k].toNat : Int) < 48 := by omega
          have hb46 : ((s[k].toNat : Int) == 46) = true := beq_iff_eq.2 (by omega)
          rw [hp] at ho
          by_cases hlast : k + 1 = s.size
          · have hlb : ((k : Int) == (s.size : Int) - 1) = true := beq_iff_eq.2 (by omega)
            have HN := hide hn
            have HO : Hid (okW s.size 0 l = okW s.size (k + 1) (l.drop (k + 1))) := hide (by rw [ho]; simp [hlast])
            clear hn ho hfalse hd hp hb0 hb1 hlast
            go_wp2
            go_round
            case rel => exact ⟨k + 1, N, by omega, by go_num, rfl, hide ⟨by rw [unhide HN]; simp, unhide HO⟩⟩
            case measure => simp [intOf]; omega
          · have hlb : ((k : Int) == (s.size : Int) - 1) = false := beq_eq_false_iff_ne.2 (by omega)
            have HF := hide (hfalse (by rw [ho]; simp [hlast]))
            clear hfalse ho hn hd hp hb0 hb1 hlast
            go_wp2
            go_ret
            exact ⟨ret_bool (unhide HF).symm, rfl⟩
      · have hb := isD_iff.1 hd
        have hb1 : (48 : Int) ≤ (s[k].toNat : Int) := by omega
        have hb2 : (s[k].toNat : Int) ≤ 57 := by omega
        rw [hd] at hn ho
        have HN := hide hn
        have HO : Hid (okW s.size 0 l = okW s.size (k + 1) (l.drop (k + 1))) := hide (by rw [ho]; simp)
        clear hn ho hfalse hd hb
        go_wp2
        go_round
        case rel => exact ⟨k + 1, N + 1, by omega, by go_num, by go_num, hide ⟨by rw [unhide HN]; simp, unhide HO⟩⟩
        case measure => simp [intOf]; omega
    · have hkk : l.take k = l := List.take_of_length_le (by rw [unhide HLL]; omega)
      have hkd : l.drop k = [] := List.drop_eq_nil_of_le (by rw [unhide HLL]; omega)
      rw [hkk, hkd] at HR
      have hfin : puB l = (decide (1 ≤ N) && decide (N ≤ 18)) := by
        rw [puB_okW, unhide HLL, (unhide HR).2, (unhide HR).1]; rfl
      have HF := hide hfin
      clear hkk hkd hfin
      by_cases h1 : 1 ≤ N
      · by_cases h2 : N ≤ 18
        · go_wp2
          go_ret
          exact ⟨ret_bool (by rw [unhide HF]; simp [h1, h2]; omega), rfl⟩
        · go_wp2
          go_ret
          exact ⟨ret_bool (by rw [unhide HF]; simp [h2]; omega), rfl⟩
      · go_wp2
        go_ret
        exact ⟨ret_bool (by rw [unhide HF]; simp [h1]), rfl⟩
end Go.Proofs.Qxb6627644a
