/-
  The size guards (5, 13), strictlyIncreasing (9), search (10), sameList (11).
-/
import Derived.Test.Qxb6627683aRows
import Derived.Test.Qxb6627683aPlain
import Derived.WalkKit
import Derived.WalkSpells
import Derived.WalkLawsBesides
import Derived.BigQuiet
import Derived.Deep.QuietTactic
import Derived.Sort.Walk0
namespace Go.Proofs.Qxb6627683a
open Go.RowKit

theorem hide {p : Prop} (h : p) : Hid p := h
theorem unhide {p : Prop} (h : Hid p) : p := h
def IsBool (e : Ending) : Prop := ∃ b : Bool, e = .returned (.bool b)
theorem isBool (b : Bool) : IsBool (.returned (.bool b)) := ⟨b, rfl⟩

/-- A string out of its bytes. -/
def mkS (x : List UInt8) : ByteArray := ⟨x.toArray⟩
theorem mkS_toList (x : List UInt8) : (mkS x).toList = x := by rw [Lib.toList_data]; rfl
theorem less_eq (x y : List UInt8) : Op.bytesLess (mkS x).toList (mkS y).toList = decide (x < y) := by rw [mkS_toList, mkS_toList, bytesLess_eq]
theorem same_eq (x y : List UInt8) : ((mkS x).toList == (mkS y).toList) = decide (x = y) := by
  rw [mkS_toList, mkS_toList]
  by_cases h : x = y <;> simp [h]

/-- A slice whose elements can be read in w: the strings L. -/
def Row (w : World) (a : Option Addr) (L : List (List UInt8)) : Prop :=
  ∀ j x, L[j]? = some x → ∃ b off, a = some ⟨b, off, none⟩ ∧ w.cell? ⟨b, off + j, none⟩ = some (.string (mkS x))
theorem Row.below {w w' : World} {a : Option Addr} {L : List (List UInt8)} (h : Row w a L) (hb : Below w.heap.size w w') : Row w' a L := by
  intro j x hj
  obtain ⟨b, off, ha, hc⟩ := h j x hj
  exact ⟨b, off, ha, by rw [← hc]; exact hb.cell (p := ⟨b, off + j, none⟩) (World.block_lt_of_cell? _ _ hc)⟩
theorem Row.drewN {w : World} {a : Option Addr} {L : List (List UInt8)} (h : Row w a L) (n : Nat) : Row (w.drewN n) a L := h

set_option maxHeartbeats 400000 in
/-- strictlyIncreasing, of a list that is. -/
theorem inc_any (a : Option Addr) (cap : Nat) (L : List (List UInt8)) (w : World) (hl : L.length ≤ 1000000) (hr : Row w a L) (hi : Inc L) :
    Calls Try.prog 9 #[.slice a L.length cap] w fun e w' => e = .returned (.bool true) ∧ ∃ n, w' = w.drewN n := by
  have HR := hide hr
  have HI := hide hi
  clear hr hi
  go_enter Try.func9, Try.ntmps9
  go_wp2
  go_loopw [3] (fun i wr => ∃ k : Nat, i = .int .i64 ((k : Int) + 1) ∧ ∃ n, wr = w.drewN n) (fun i _ => L.length - (intOf i).toNat)
  case atStart => exact ⟨0, rfl, 0, rfl⟩
  obtain ⟨k, rfl, n, rfl⟩ := hrel
  by_cases hlt : k + 1 < L.length
  · obtain ⟨x, hx⟩ : ∃ x, L[k + 1]? = some x := ⟨_, List.getElem?_eq_getElem hlt⟩
    obtain ⟨y, hy⟩ : ∃ y, L[k]? = some y := ⟨_, List.getElem?_eq_getElem (by omega)⟩
    obtain ⟨b, off, rfl, hcx⟩ := unhide HR (k + 1) x hx
    obtain ⟨b', off', hab, hcy⟩ := unhide HR k y hy
    simp only [Option.some.injEq, Addr.mk.injEq, and_true] at hab
    obtain ⟨rfl, rfl⟩ := hab
    have hlt2 : Op.bytesLess (mkS y).toList (mkS x).toList = true := by rw [less_eq]; exact decide_eq_true ((unhide HI).lt hy hx (by omega))
    have h1 : (k : Int) < (L.length : Int) := by omega
    have h2 : (k : Int) + 1 < (L.length : Int) := by omega
    clear HR hx hy
    go_wp2
    go_quiet (fail)
    go_wp2
    go_roundw
    case rel => exact ⟨k + 1, by go_num, _, rfl⟩
    case measure => simp [intOf]; omega
  · go_wp2
    go_ret
    exact ⟨rfl, _, rfl⟩

set_option maxHeartbeats 800000 in
/-- sameList. -/
theorem same_any (a a' : Option Addr) (cap cap' : Nat) (L M : List (List UInt8)) (w : World) (hl : L.length ≤ 1000000) (hr : Row w a L) (hr' : Row w a' M) (he : L = M) :
    Calls Try.prog 11 #[.slice a L.length cap, .slice a' M.length cap'] w fun e w' => e = .returned (.bool true) ∧ ∃ n, w' = w.drewN n := by
  subst he
  have HR := hide hr
  have HR' := hide hr'
  clear hr hr'
  go_enter Try.func11, Try.ntmps11
  go_wp2
  go_loopw [5] (fun i wr => ∃ k : Nat, i = .int .i64 k ∧ ∃ n, wr = w.drewN n) (fun i _ => L.length - (intOf i).toNat)
  case atStart => exact ⟨0, rfl, 0, rfl⟩
  obtain ⟨k, rfl, n, rfl⟩ := hrel
  by_cases hlt : k < L.length
  · obtain ⟨x, hx⟩ : ∃ x, L[k]? = some x := ⟨_, List.getElem?_eq_getElem hlt⟩
    obtain ⟨b, off, rfl, hcx⟩ := unhide HR k x hx
    obtain ⟨b', off', rfl, hcy⟩ := unhide HR' k x hx
    have h1 : (k : Int) < (L.length : Int) := by omega
    clear HR HR' hx
    go_wp2
    go_quiet (fail)
    go_wp2
    go_roundw
    case rel => exact ⟨k + 1, by go_num, _, rfl⟩
    case measure => simp [intOf]; omega
  · go_wp2
    go_ret
    exact ⟨rfl, _, rfl⟩

set_option maxHeartbeats 800000 in
/-- search, of a name that is there. -/
theorem search_any (a : Option Addr) (cap : Nat) (L : List (List UInt8)) (x : List UInt8) (p : Nat) (w : World) (hl : L.length ≤ 1000000) (hr : Row w a L) (hi : Inc L) (hp : L[p]? = some x) :
    Calls Try.prog 10 #[.slice a L.length cap, .string (mkS x)] w fun e w' => e = .returned (.int .i64 p) ∧ w' = w := by
  have hpl := (List.getElem?_eq_some_iff.1 hp).1
  have HR := hide hr
  have HI := hide hi
  have HP := hide hp
  clear hr hi hp
  go_enter Try.func10, Try.ntmps10
  go_wp2
  go_loop [5, 6] (fun l h => ∃ lo hi : Nat, lo ≤ p ∧ p < hi ∧ hi ≤ L.length ∧ l = .int .i64 lo ∧ h = .int .i64 hi) (fun l h => (intOf h - intOf l).toNat)
  case atStart => exact ⟨0, L.length, Nat.zero_le _, hpl, Nat.le_refl _, rfl, rfl⟩
  case round =>
    obtain ⟨lo, hi, h1, h2, h3, rfl, rfl⟩ := hrel
    obtain ⟨m, hm⟩ : ∃ m, m = lo + (hi - lo) / 2 := ⟨_, rfl⟩
    have hm1 : lo ≤ m := by omega
    have hm2 : m < hi := by omega
    have hmi : (lo : Int) + ((hi : Int) - (lo : Int)) / 2 = (m : Int) := by omega
    have HM := hide hm
    clear hm
    obtain ⟨y, hy⟩ : ∃ y, L[m]? = some y := ⟨_, List.getElem?_eq_getElem (by omega)⟩
    obtain ⟨b, off, rfl, hc⟩ := unhide HR m y hy
    have hml : (m : Int) < (L.length : Int) := by omega
    clear HR
    rcases Nat.lt_trichotomy m p with hmp | hmp | hmp
    · have hlt := (unhide HI).lt hy (unhide HP) hmp
      have t1 : Op.bytesLess (mkS y).toList (mkS x).toList = true := by rw [less_eq]; exact decide_eq_true hlt
      have t2 : ((mkS y).toList == (mkS x).toList) = false := by rw [same_eq]; exact decide_eq_false (fun e => by subst e; exact lt_irrefl' _ hlt)
      clear hlt hy
      go_wp2
      go_round
      case rel => exact ⟨m + 1, hi, by omega, h2, h3, by go_num, rfl⟩
      case measure => simp [intOf]; omega
    · subst hmp
      have e := Option.some.inj (hy.symm.trans (unhide HP))
      subst e
      clear hy
      go_wp2
      go_ret
      exact ⟨rfl, rfl⟩
    · have hlt := (unhide HI).lt (unhide HP) hy hmp
      have t1 : Op.bytesLess (mkS y).toList (mkS x).toList = false := by rw [less_eq]; exact decide_eq_false (fun h => lt_irrefl' _ (lt_of_le_of_lt' (le_of_lt' hlt) h))
      have t2 : ((mkS y).toList == (mkS x).toList) = false := by rw [same_eq]; exact decide_eq_false (fun e => by subst e; exact lt_irrefl' _ hlt)
      clear hlt hy
      go_wp2
      go_round
      case rel => exact ⟨lo, m, h1, hmp, by omega, rfl, rfl⟩
      case measure => simp [intOf]; omega
end Go.Proofs.Qxb6627683a
