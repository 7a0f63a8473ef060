/-
  The law FnDropsAllInsertAnywhere (3).
-/
import Derived.Test.Qxb6627608aWalksC
namespace Go.Proofs.Qxb6627608a
open Go.RowKit

theorem hasAll_append (a b : List ByteArray) : hasAll (a ++ b) = (hasAll a || hasAll b) := by simp [hasAll]
theorem hasAll_ins (ss : List ByteArray) (len i : Nat) (x : ByteArray) (hi : i ≤ len) : hasAll (ins ss len i x) = (hasAll (ss.take len) || isAll x) := by
  unfold ins
  rw [hasAll_append, hasAll_append]
  have h : hasAll (ss.take len) = (hasAll (ss.take i) || hasAll ((ss.take len).drop i)) := by
    have : ss.take len = ss.take i ++ (ss.take len).drop i := by
      have e := (List.take_append_drop i (ss.take len)).symm
      rw [List.take_take, Nat.min_eq_left hi] at e
      exact e
    rw [← hasAll_append, ← this]
  rw [h]
  have h1 : hasAll [x] = isAll x := by simp [hasAll]
  rw [h1]
  cases hasAll (ss.take i) <;> cases isAll x <;> cases hasAll ((ss.take len).drop i) <;> rfl
theorem isAll_all : isAll ⟨#[65, 76, 76]⟩ = true := by kernel_rfl
theorem ins_len (ss : List ByteArray) (len i : Nat) (x : ByteArray) : (ins ss len i x).length ≤ i + 1 + len := by
  unfold ins; simp; omega

theorem Own.form {w wr : World} {v : Value} {xs : List ByteArray} {n : Nat} (h : Own w wr v xs) (hn : xs.length = n) : ∃ ao cap, v = .slice ao n cap := by
  subst hn
  rcases h.1.2 with ⟨rfl, h2⟩ | ⟨g, cap, cur, rfl, _⟩
  · exact ⟨none, 0, by rw [h2]⟩
  · exact ⟨_, _, rfl⟩
/-- DropsAll of a new Capabilities that holds the call's own list. -/
theorem drops_of {w w1 : World} {v : Value} {xs : List ByteArray} {r : Bool} (h : Own w w1 v xs) (hl : xs.length ≤ 1000000) (hr : hasAll xs = r) :
    Calls Try.prog 8 #[.pointer (some ⟨w1.heap.size, 0, none⟩)] (w1.alloc (.cells #[v] 29)) fun e w' => e = .returned (.bool r) ∧ w' = w1.alloc (.cells #[v] 29) := by
  subst hr
  exact drops_any _ v xs w.heap.size _ (by simp) (by unfold maxLen; omega) (h.1.alloc _)

set_option maxHeartbeats 800000 in
theorem insertLaw_any (a0 : Option Addr) (len cap : Nat) (i : Int) (x : ByteArray) (ss : List ByteArray) (w : World) (hl : len ≤ maxLen) (hn : a0 = none → len = 0) (hls : len ≤ ss.length) (hc : Strs w a0 len ss)
    (B X : Bool) (hB : hasAll (ss.take len) = B) (hX : (x.toList == [65, 76, 76]) = X) :
    Calls Try.prog 3 #[.slice a0 len cap, .int .i64 i, .string x] w fun e w' => e = .returned (.bool true) ∧ Below w.heap.size w w' := by
  have HC := hide hc
  have HB := hide hB
  have HX := hide hX
  have HN := hide hn
  clear hc hB hX hn
  go_enter Try.func3, Try.ntmps3
  go_wp2_with fail
  refine (guard5_any _ _ _ _ _ ss _ hl (unhide HC)).mono ?_
  rintro e w' ⟨⟨b, rfl⟩, rfl⟩
  cases b
  case false =>
    go_wp2
    go_ret
    exact ⟨rfl, Below.refl _ _⟩
  by_cases h16 : len ≤ 65536
  case neg =>
    go_wp2
    go_ret
    exact ⟨rfl, Below.refl _ _⟩
  go_wp2_with fail
  refine (over_any _ _ _ _ ss _ hl (unhide HC)).mono ?_
  rintro e w' ⟨⟨b, rfl⟩, rfl⟩
  cases b
  case true =>
    go_wp2
    go_ret
    exact ⟨rfl, Below.refl _ _⟩
  by_cases hi0 : i < 0
  · go_wp2
    go_ret
    exact ⟨rfl, Below.refl _ _⟩
  by_cases hi1 : (len : Int) < i
  · go_wp2
    go_ret
    exact ⟨rfl, Below.refl _ _⟩
  obtain ⟨n, rfl⟩ := Int.eq_ofNat_of_zero_le (show 0 ≤ i by omega)
  have hnl : n ≤ len := by omega
  clear hi0 hi1
  go_wp2_with fail
  refine (caps_any _ _ _ ss _ h16 (unhide HN) hls (unhide HC)).mono ?_
  rintro e w1 ⟨v, rfl, O1⟩
  obtain ⟨ao1, cap1, rfl⟩ := O1.form (n := len) (by simp; omega)
  have U1 := O1.2
  go_wp2_with fail
  refine (drops_of O1 (by simp; omega) (unhide HB)).mono ?_
  rintro e w' ⟨rfl, rfl⟩
  clear O1
  have HC1 := hide ((unhide HC).below (U1.alloc U1.size (.cells #[.slice ao1 len cap1] 29)))
  go_wp2_with fail
  refine (insert_any _ _ _ n _ ss _ h16 hnl hls (unhide HC1)).mono ?_
  rintro e w2 ⟨v, rfl, O2⟩
  obtain ⟨m2, hm2⟩ : ∃ m, (ins ss len n x).length = m := ⟨_, rfl⟩
  obtain ⟨ao2, cap2, rfl⟩ := O2.form hm2
  clear hm2
  have U2 := (U1.alloc U1.size _).trans (O2.2.mono (by have := U1.size; simp; omega))
  go_wp2_with fail
  refine (drops_of O2 (by have := ins_len ss len n x; omega) (r := (B || X)) (by rw [hasAll_ins _ _ _ _ hnl, unhide HB]; exact congrArg _ (unhide HX))).mono ?_
  rintro e w' ⟨rfl, rfl⟩
  clear O2
  have HC2 := hide ((unhide HC).below (U2.alloc U2.size (.cells #[.slice ao2 m2 cap2] 29)))
  go_wp2_with fail
  refine (insert_any _ _ _ n _ ss _ h16 hnl hls (unhide HC2)).mono ?_
  rintro e w3 ⟨v, rfl, O3⟩
  obtain ⟨m3, hm3⟩ : ∃ m, (ins ss len n ⟨#[65, 76, 76]⟩).length = m := ⟨_, rfl⟩
  obtain ⟨ao3, cap3, rfl⟩ := O3.form hm3
  clear hm3
  have U3 := (U2.alloc U2.size _).trans (O3.2.mono (by have := U2.size; simp; omega))
  go_wp2_with fail
  refine (drops_of O3 (by have := ins_len ss len n ⟨#[65, 76, 76]⟩; omega) (r := true) (by rw [hasAll_ins _ _ _ _ hnl, isAll_all, Bool.or_true])).mono ?_
  rintro e w' ⟨rfl, rfl⟩
  clear O3
  go_wp2_with fail
  refine (drops_nil _).mono ?_
  rintro e w' ⟨rfl, rfl⟩
  have hX := unhide HX
  clear HX HB HC HC1 HC2 HN
  cases B <;> cases X
  all_goals
    go_wp2
    go_ret
    exact ⟨rfl, U3.alloc U3.size _⟩
end Go.Proofs.Qxb6627608a
