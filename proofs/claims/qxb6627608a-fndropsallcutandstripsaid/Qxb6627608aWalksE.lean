/-
  The law FnDropsAllCutAndStrip (4).
-/
import Derived.Test.Qxb6627608aWalksD
namespace Go.Proofs.Qxb6627608a
open Go.RowKit

theorem Strs.shorter {w : World} {a : Option Addr} {l n : Nat} {ss : List ByteArray} (h : Strs w a l ss) (hn : n ≤ l) : Strs w a n ss := fun j hj => h j (by omega)

theorem Strs.cut {w : World} {a : Option Addr} {l n : Nat} {ss : List ByteArray} (h : Strs w a l ss) : Strs w (a.map (fun x => x.add n)) (l - n) (ss.drop n) := by
  intro j hj
  obtain ⟨b, off, rfl, hc⟩ := h (n + j) (by omega)
  refine ⟨b, off + n, by simp [Addr.add], ?_⟩
  rw [show off + n + j = off + (n + j) by omega, hc]
  simp [List.getD]
theorem strip_none {xs : List ByteArray} (h : hasAll xs = false) : strip xs = xs := by
  unfold strip
  rw [List.filter_eq_self]
  intro s hs
  have : isAll s = false := by
    cases hq : isAll s
    · rfl
    · rw [show hasAll xs = true from List.any_eq_true.2 ⟨s, hs, hq⟩] at h; cases h
  simp [this]
theorem hasAll_strip (xs : List ByteArray) : hasAll (strip xs) = false := by
  unfold hasAll strip
  rw [List.any_eq_false]
  intro s hs
  have := (List.mem_filter.1 hs).2
  simpa using this
theorem strip_some {xs : List ByteArray} (h : hasAll xs = true) : (strip xs).length < xs.length := by
  have h1 := strip_le xs
  rcases Nat.lt_or_ge (strip xs).length xs.length with h2 | h2
  · exact h2
  · have e : strip xs = xs := (List.filter_sublist (l := xs) (p := fun s => !isAll s)).eq_of_length (by unfold strip at *; omega)
    rw [← e, hasAll_strip] at h; cases h
theorem hasAll_cut (ss : List ByteArray) (len n : Nat) (hn : n ≤ len) : hasAll (ss.take len) = (hasAll (ss.take n) || hasAll ((ss.drop n).take (len - n))) := by
  rw [← hasAll_append, List.take_drop]
  have e := (List.take_append_drop n (ss.take len)).symm
  rw [List.take_take, Nat.min_eq_left hn] at e
  rw [show n + (len - n) = len by omega, ← e]

set_option maxHeartbeats 800000 in
theorem cutLaw_any (a0 : Option Addr) (len cap : Nat) (i : Int) (n : Nat) (hin : 0 ≤ i → i = n) (ss : List ByteArray) (w : World) (hl : len ≤ maxLen) (hlc : len ≤ cap) (hn : a0 = none → len = 0 ∧ cap = 0) (hls : len ≤ ss.length) (hc : Strs w a0 len ss)
    (L R : Bool) (hL : hasAll (ss.take n) = L) (hR : hasAll ((ss.drop n).take (len - n)) = R) :
    Calls Try.prog 4 #[.slice a0 len cap, .int .i64 i] w fun e w' => e = .returned (.bool true) ∧ Below w.heap.size w w' := by
  have HC := hide hc
  have HN := hide hn
  have HL := hide hL
  have HRR := hide hR
  have HI := hide hin
  clear hc hn hL hR hin
  go_enter Try.func4, Try.ntmps4
  go_wp2_with fail
  refine (guard10_any _ _ _ _ ss _ hl (unhide HC)).mono ?_
  rintro e w' ⟨⟨b, rfl⟩, rfl⟩
  cases b
  case false =>
    go_wp2
    go_ret
    exact ⟨rfl, Below.refl _ _⟩
  by_cases h16 : len ≤ 65536
  case neg =>
    go_wp2
    go_ret
    exact ⟨rfl, Below.refl _ _⟩
  go_wp2_with fail
  refine (over_any _ _ _ _ ss _ hl (unhide HC)).mono ?_
  rintro e w' ⟨⟨b, rfl⟩, rfl⟩
  cases b
  case true =>
    go_wp2
    go_ret
    exact ⟨rfl, Below.refl _ _⟩
  by_cases hi0 : i < 0
  · go_wp2
    go_ret
    exact ⟨rfl, Below.refl _ _⟩
  by_cases hi1 : (len : Int) < i
  · go_wp2
    go_ret
    exact ⟨rfl, Below.refl _ _⟩
  obtain rfl := unhide HI (by omega)
  clear HI
  have hnl : n ≤ len := by omega
  clear hi0 hi1
  go_wp2_with fail
  refine (caps_any _ _ _ ss _ h16 (fun h => (unhide HN h).1) hls (unhide HC)).mono ?_
  rintro e w1 ⟨v, rfl, O1⟩
  obtain ⟨ao1, cap1, rfl⟩ := O1.form (n := len) (by simp; omega)
  have U1 := O1.2
  go_wp2_with fail
  refine (drops_of O1 (by simp; omega) (r := (L || R)) (by rw [hasAll_cut _ _ _ hnl, unhide HL, unhide HRR])).mono ?_
  rintro e w' ⟨rfl, rfl⟩
  clear O1
  have HC1 := hide ((unhide HC).below (U1.alloc U1.size (.cells #[.slice ao1 len cap1] 29)))
  go_wp2_with fail
  refine (caps_any _ _ _ ss _ (by omega) (fun h => by have := (unhide HN h).1; omega) (by omega) ((unhide HC1).shorter hnl)).mono ?_
  rintro e w2 ⟨v, rfl, O2⟩
  obtain ⟨ao2, cap2, rfl⟩ := O2.form (n := n) (by simp; omega)
  have U2 := (U1.alloc U1.size _).trans (O2.2.mono (by have := U1.size; simp; omega))
  go_wp2_with fail
  refine (drops_of O2 (by simp; omega) (unhide HL)).mono ?_
  rintro e w' ⟨rfl, rfl⟩
  clear O2
  have HC2 := hide ((unhide HC).below (U2.alloc U2.size (.cells #[.slice ao2 n cap2] 29)))
  go_wp2_with fail
  case inl =>
    have HC3 : Hid (Strs (w2.alloc (.cells #[.slice ao2 n cap2] 29)) a0 (len - n) (ss.drop n)) := hide (fun j hj => by omega)
    have HN3 : Hid (a0 = none → len - n = 0) := hide (fun _ => by omega)
    refine (caps_any _ _ _ (ss.drop n) _ (by omega) (unhide HN3) (by simp; omega) (unhide HC3)).mono ?_
    rintro e w3 ⟨v, rfl, O3⟩
    obtain ⟨ao3, cap3, rfl⟩ := O3.form (n := len - n) (by simp; omega)
    have U3 := (U2.alloc U2.size _).trans (O3.2.mono (by have := U2.size; simp; omega))
    go_wp2_with fail
    refine (drops_of O3 (by simp; omega) (unhide HRR)).mono ?_
    rintro e w' ⟨rfl, rfl⟩
    clear O3 HC3 HN3 HC2 HC1
    have HC4 := hide ((unhide HC).below (U3.alloc U3.size (.cells #[.slice ao3 (len - n) cap3] 29)))
    go_wp2_with fail
    refine (strip_any _ _ _ ss _ h16 hls (unhide HC4)).mono ?_
    rintro e w4 ⟨v, rfl, O4⟩
    obtain ⟨m, hm⟩ : ∃ m, (strip (ss.take len)).length = m := ⟨_, rfl⟩
    obtain ⟨ao4, cap4, rfl⟩ := O4.form hm
    have U4 := (U3.alloc U3.size _).trans (O4.2.mono (by have := U3.size; simp; omega))
    have hml : m ≤ len := by rw [← hm]; exact Nat.le_trans (strip_le _) (by simp; omega)
    have HM := hide hm
    clear hm
    go_wp2_with fail
    refine (drops_of O4 (by rw [unhide HM]; omega) (hasAll_strip _)).mono ?_
    rintro e w' ⟨rfl, rfl⟩
    have hw := hasAll_cut ss len n hnl
    rw [unhide HL, unhide HRR] at hw
    clear O4 HC4 HC HL HRR HN
    have hlen : (ss.take len).length = len := by simp; omega
    cases L <;> cases R
    case false.false =>
      have hmm : m = len := by rw [← unhide HM, strip_none hw]; exact hlen
      subst hmm
      clear hw HM hlen
      go_wp2
      go_ret
      exact ⟨rfl, U4.alloc U4.size _⟩
    all_goals
      have hmm : (m : Int) < (len : Int) := by have := strip_some hw; rw [unhide HM, hlen] at this; omega
      have hmb : ((m : Int) != (len : Int)) = true := by rw [bne_iff_ne]; omega
      clear hw HM hlen
      go_wp2
      go_ret
      exact ⟨rfl, U4.alloc U4.size _⟩
  case inr =>
    have HC3 : Hid (Strs (w2.alloc (.cells #[.slice ao2 n cap2] 29)) (a0.map (fun x => x.add n)) (len - n) (ss.drop n)) := hide ((unhide HC2).cut)
    have HN3 : Hid (a0.map (fun x => x.add n) = none → len - n = 0) := hide (fun h => by have := (unhide HN (Option.map_eq_none_iff.1 h)).1; omega)
    refine (caps_any _ _ _ (ss.drop n) _ (by omega) (unhide HN3) (by simp; omega) (unhide HC3)).mono ?_
    rintro e w3 ⟨v, rfl, O3⟩
    obtain ⟨ao3, cap3, rfl⟩ := O3.form (n := len - n) (by simp; omega)
    have U3 := (U2.alloc U2.size _).trans (O3.2.mono (by have := U2.size; simp; omega))
    go_wp2_with fail
    refine (drops_of O3 (by simp; omega) (unhide HRR)).mono ?_
    rintro e w' ⟨rfl, rfl⟩
    clear O3 HC3 HN3 HC2 HC1
    have HC4 := hide ((unhide HC).below (U3.alloc U3.size (.cells #[.slice ao3 (len - n) cap3] 29)))
    go_wp2_with fail
    refine (strip_any _ _ _ ss _ h16 hls (unhide HC4)).mono ?_
    rintro e w4 ⟨v, rfl, O4⟩
    obtain ⟨m, hm⟩ : ∃ m, (strip (ss.take len)).length = m := ⟨_, rfl⟩
    obtain ⟨ao4, cap4, rfl⟩ := O4.form hm
    have U4 := (U3.alloc U3.size _).trans (O4.2.mono (by have := U3.size; simp; omega))
    have hml : m ≤ len := by rw [← hm]; exact Nat.le_trans (strip_le _) (by simp; omega)
    have HM := hide hm
    clear hm
    go_wp2_with fail
    refine (drops_of O4 (by rw [unhide HM]; omega) (hasAll_strip _)).mono ?_
    rintro e w' ⟨rfl, rfl⟩
    have hw := hasAll_cut ss len n hnl
    rw [unhide HL, unhide HRR] at hw
    clear O4 HC4 HC HL HRR HN
    have hlen : (ss.take len).length = len := by simp; omega
    cases L <;> cases R
    case false.false =>
      have hmm : m = len := by rw [← unhide HM, strip_none hw]; exact hlen
      subst hmm
      clear hw HM hlen
      go_wp2
      go_ret
      exact ⟨rfl, U4.alloc U4.size _⟩
    all_goals
      have hmm : (m : Int) < (len : Int) := by have := strip_some hw; rw [unhide HM, hlen] at this; omega
      have hmb : ((m : Int) != (len : Int)) = true := by rw [bne_iff_ne]; omega
      clear hw HM hlen
      go_wp2
      go_ret
      exact ⟨rfl, U4.alloc U4.size _⟩
end Go.Proofs.Qxb6627608a
