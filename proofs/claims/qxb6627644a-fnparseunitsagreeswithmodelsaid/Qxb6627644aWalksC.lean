/-
  The law FnParseUnitsAgreesWithModel (3).
-/
import Derived.Test.Qxb6627644aWalksB
namespace Go.Proofs.Qxb6627644a
open Go.RowKit

set_option maxHeartbeats 400000 in
theorem agrees_any (s : ByteArray) (w : World) : Calls Try.prog 3 #[.string s] w fun e w' => e = .returned (.bool true) ∧ w' = w := by
  go_enter Try.func3, Try.ntmps3
  go_wp2_with fail
  refine (guard5_any _ _).mono ?_
  rintro e w' ⟨⟨b, rfl⟩, rfl⟩
  cases b
  case false =>
    go_wp2
    go_ret
    exact ⟨rfl, rfl⟩
  by_cases hsz : s.size ≤ 1048576
  case neg =>
    go_wp2
    go_ret
    exact ⟨rfl, rfl⟩
  obtain ⟨l, hl⟩ : ∃ l, l = s.data.toList := ⟨_, rfl⟩
  have HL := hide hl
  clear hl
  go_wp2_with fail
  refine (model_any s _ (by omega) l (unhide HL)).mono ?_
  rintro e w' ⟨rfl, rfl⟩
  go_wp2_with fail
  refine (parse_any s _ (by omega) l (unhide HL)).mono ?_
  rintro e w' ⟨rfl, rfl⟩
  go_wp2_with fail
  have hl2 : l ++ [46] = (s ++ ⟨#[46]⟩ : ByteArray).data.toList := by rw [unhide HL]; simp
  have hs2 : (s ++ ⟨#[46]⟩ : ByteArray).size ≤ 2097152 := by
    have : (s ++ ⟨#[46]⟩ : ByteArray).size = s.size + 1 := by simp [ByteArray.size_append]; rfl
    omega
  refine (parse_any _ _ hs2 (l ++ [46]) hl2).mono ?_
  rintro e w' ⟨he, rfl⟩
  clear hl2 hs2
  by_cases hp : nP l = 0
  · have h1 := pu_point_none (l := l) (c := 46) rfl hp
    rw [h1.1, h1.2] at he
    subst he
    clear h1
    have HP := hide hp
    clear hp
    go_wp2_with fail
    refine (point_any s _ (by omega) l (unhide HL)).mono ?_
    rintro e w' ⟨he, rfl⟩
    rw [unhide HP] at he
    simp only [Nat.lt_irrefl, decide_false] at he
    subst he
    go_wp2
    go_ret
    exact ⟨rfl, rfl⟩
  · have h1 := pu_point_has (l := l) (c := 46) rfl hp
    rw [h1.1, h1.2] at he
    subst he
    clear h1
    have HP := hide hp
    clear hp
    go_wp2_with fail
    refine (point_any s _ (by omega) l (unhide HL)).mono ?_
    rintro e w' ⟨he, rfl⟩
    rw [decide_eq_true (show 0 < nP l by have := unhide HP; omega)] at he
    subst he
    go_wp2
    go_ret
    exact ⟨rfl, rfl⟩
end Go.Proofs.Qxb6627644a
