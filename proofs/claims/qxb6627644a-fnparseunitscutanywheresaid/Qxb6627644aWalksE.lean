/-
  The law FnParseUnitsCutAnywhere (4).
-/
import Derived.Test.Qxb6627644aWalksD
namespace Go.Proofs.Qxb6627644a
open Go.RowKit

theorem ext_take (s : ByteArray) (k : Nat) : (s.extract 0 k).data.toList = s.data.toList.take k := by simp [ByteArray.data_extract]
theorem ext_drop (s : ByteArray) (k : Nat) : (s.extract k s.size).data.toList = s.data.toList.drop k := by
  simp [ByteArray.data_extract]
  rw [List.take_of_length_le (by simp)]
theorem ext_size (s : ByteArray) (a b : Nat) (h : b ≤ s.size) : (s.extract a b).size ≤ s.size := by
  simp [ByteArray.size_extract]; omega
theorem sum_id {Va P Vb Vs : Nat} (h : Vs = Va * P + Vb) (hs : Vs < 1000000000000000000) : wrap64 (wrap64 ((Va : Int) * (P : Int)) + (Vb : Int)) = (Vs : Int) := by
  have h2 : ((Va * P : Nat) : Int) = (Va : Int) * (P : Int) := by simp
  rw [← h2]
  generalize Va * P = x at *
  unfold wrap64
  omega
theorem puV_lt (l : List UInt8) : puV l < 1000000000000000000 := by
  unfold puV
  split
  · rename_i h; exact val_lt18 (good_iff.1 h).2.1
  · omega

set_option maxHeartbeats 800000 in
theorem cut_any (s : ByteArray) (i : Int) (w : World) : Calls Try.prog 4 #[.string s, .int .i64 i] w fun e w' => e = .returned (.bool true) ∧ w' = w := by
  go_enter Try.func4, Try.ntmps4
  go_wp2_with fail
  refine (guard9_any _ _ _).mono ?_
  rintro e w' ⟨⟨b, rfl⟩, rfl⟩
  cases b
  case false =>
    go_wp2
    go_ret
    exact ⟨rfl, rfl⟩
  by_cases hsz : s.size ≤ 1048576
  case neg =>
    go_wp2
    go_ret
    exact ⟨rfl, rfl⟩
  by_cases hi0 : i < 0
  · go_wp2
    go_ret
    exact ⟨rfl, rfl⟩
  by_cases hi1 : (s.size : Int) < i
  · go_wp2
    go_ret
    exact ⟨rfl, rfl⟩
  obtain ⟨k, rfl⟩ := Int.eq_ofNat_of_zero_le (show 0 ≤ i by omega)
  have hks : k ≤ s.size := by omega
  clear hi0 hi1
  obtain ⟨l, hl⟩ : ∃ l, l = s.data.toList := ⟨_, rfl⟩
  have HL := hide hl
  clear hl
  go_wp2_with fail
  refine (parse_any s _ (by omega) l (unhide HL)).mono ?_
  rintro e w' ⟨rfl, rfl⟩
  go_wp2_with fail
  refine (parse_any _ _ (by have := ext_size s 0 k hks; omega) (l.take k) (by rw [ext_take, unhide HL])).mono ?_
  rintro e w' ⟨ha, rfl⟩
  obtain ⟨a, hla⟩ : ∃ a, a = l.take k := ⟨_, rfl⟩
  obtain ⟨b, hlb⟩ : ∃ b, b = l.drop k := ⟨_, rfl⟩
  have hab : l = a ++ b := by rw [hla, hlb, List.take_append_drop]
  rw [← hla] at ha
  subst ha
  have HA := hide hla
  have HB := hide hlb
  have HAB := hide hab
  clear hla hlb hab
  go_wp2_with fail
  refine (parse_any _ _ (by have := ext_size s k s.size (Nat.le_refl _); omega) b (by rw [ext_drop, unhide HB, unhide HL])).mono ?_
  rintro e w' ⟨rfl, rfl⟩
  go_wp2_with fail
  refine (whole_any s _ (by omega) l (unhide HL)).mono ?_
  rintro e w' ⟨rfl, rfl⟩
  cases hw : puB l
  · go_wp2
    go_ret
    exact ⟨rfl, rfl⟩
  · have hcut := pu_cut (a := a) (b := b) (by rw [← unhide HAB]; exact hw)
    rw [← unhide HAB] at hcut
    obtain ⟨h1, h2, h3, h4⟩ := hcut
    have hn : nD a + nD b ≤ 18 := by rw [← nD_append, ← unhide HAB]; exact h4
    have hsum := sum_id (P := p10 (nD b)) h3 (puV_lt l)
    have HSum := hide hsum
    have H1 := hide h1
    have H2 := hide h2
    clear h1 h2 h3 h4 hsum
    go_wp2_with fail
    refine (count_any _ _ (by have := ext_size s 0 k hks; omega) a (by rw [ext_take, unhide HA, unhide HL])).mono ?_
    rintro e w' ⟨rfl, rfl⟩
    go_wp2_with fail
    refine (count_any _ _ (by have := ext_size s k s.size (Nat.le_refl _); omega) b (by rw [ext_drop, unhide HB, unhide HL])).mono ?_
    rintro e w' ⟨rfl, rfl⟩
    have h1 := unhide H1
    have h2 := unhide H2
    clear H1 H2 HA HB
    go_wp2_with fail
    refine (pow_any _ _ (by omega)).mono ?_
    rintro e w' ⟨rfl, rfl⟩
    have hsum := unhide HSum
    clear HSum
    go_wp2
    go_ret
    exact ⟨rfl, rfl⟩
end Go.Proofs.Qxb6627644a
