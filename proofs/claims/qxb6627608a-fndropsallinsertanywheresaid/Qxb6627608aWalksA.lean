/-
  The small functions on the roads: the size guards (5, 10, 6), DropsAll (8).
-/
import Derived.Test.Qxb6627608aRows
import Derived.WalkKit
import Derived.WalkSpells
import Derived.WalkLawsBesides
namespace Go.Proofs.Qxb6627608a
open Go.RowKit

theorem hide {p : Prop} (h : p) : Hid p := h
theorem unhide {p : Prop} (h : Hid p) : p := h
def IsBool (e : Ending) : Prop := ∃ b : Bool, e = .returned (.bool b)
theorem isBool (b : Bool) : IsBool (.returned (.bool b)) := ⟨b, rfl⟩

/-- A slice of strings whose cells can be read in w. -/
def Strs (w : World) (a : Option Addr) (l : Nat) (ss : List ByteArray) : Prop :=
  ∀ j, j < l → ∃ b off, a = some ⟨b, off, none⟩ ∧ w.cell? ⟨b, off + j, none⟩ = some (.string (ss.getD j ByteArray.empty))
theorem Strs.below {w w' : World} {a : Option Addr} {l : Nat} {ss : List ByteArray} (h : Strs w a l ss) (hb : Below w.heap.size w w') : Strs w' a l ss := by
  intro j hj
  obtain ⟨b, off, ha, hc⟩ := h j hj
  exact ⟨b, off, ha, by rw [← hc]; exact hb.cell (p := ⟨b, off + j, none⟩) (World.block_lt_of_cell? _ _ hc)⟩

set_option maxHeartbeats 400000 in
theorem guard5_any (a0 : Option Addr) (len cap : Nat) (i : Int) (x : ByteArray) (ss : List ByteArray) (w : World) (hl : len ≤ maxLen) (hc : Strs w a0 len ss) :
    Calls Try.prog 5 #[.slice a0 len cap, .int .i64 i, .string x] w fun e w' => IsBool e ∧ w' = w := by
  unfold maxLen at hl
  go_enter Try.func5, Try.ntmps5
  go_wp2
  all_goals (try (go_ret; exact ⟨isBool _, rfl⟩))
  go_loop [7, 8] (fun t i => ∃ (m : Int) (k : Nat), k ≤ len ∧ i = .int .i64 k ∧ t = .int .i64 m) (fun _ i => len - (intOf i).toNat)
  case atStart => exact ⟨_, 0, Nat.zero_le _, rfl, rfl⟩
  case round =>
    obtain ⟨m, k, hk, rfl, rfl⟩ := hrel
    by_cases hlt : k < len
    · obtain ⟨b, off, rfl, hcell⟩ := hc k hlt
      clear hc
      go_wp2
      · go_ret
        exact ⟨isBool _, rfl⟩
      · go_ret
        exact ⟨isBool _, rfl⟩
      · go_round
        case rel => exact ⟨_, k + 1, by omega, by go_num, rfl⟩
        case measure => simp [intOf]; omega
    · go_wp2
      all_goals (go_ret; exact ⟨isBool _, rfl⟩)

set_option maxHeartbeats 400000 in
theorem guard10_any (a0 : Option Addr) (len cap : Nat) (i : Int) (ss : List ByteArray) (w : World) (hl : len ≤ maxLen) (hc : Strs w a0 len ss) :
    Calls Try.prog 10 #[.slice a0 len cap, .int .i64 i] w fun e w' => IsBool e ∧ w' = w := by
  unfold maxLen at hl
  go_enter Try.func10, Try.ntmps10
  go_wp2
  all_goals (try (go_ret; exact ⟨isBool _, rfl⟩))
  go_loop [5, 6] (fun t i => ∃ (m : Int) (k : Nat), k ≤ len ∧ i = .int .i64 k ∧ t = .int .i64 m) (fun _ i => len - (intOf i).toNat)
  case atStart => exact ⟨_, 0, Nat.zero_le _, rfl, rfl⟩
  case round =>
    obtain ⟨m, k, hk, rfl, rfl⟩ := hrel
    by_cases hlt : k < len
    · obtain ⟨b, off, rfl, hcell⟩ := hc k hlt
      clear hc
      go_wp2
      · go_ret
        exact ⟨isBool _, rfl⟩
      · go_ret
        exact ⟨isBool _, rfl⟩
      · go_round
        case rel => exact ⟨_, k + 1, by omega, by go_num, rfl⟩
        case measure => simp [intOf]; omega
    · go_wp2
      all_goals (go_ret; exact ⟨isBool _, rfl⟩)

set_option maxHeartbeats 400000 in
theorem over_any (a0 : Option Addr) (len cap : Nat) (x : Int) (ss : List ByteArray) (w : World) (hl : len ≤ maxLen) (hc : Strs w a0 len ss) :
    Calls Try.prog 6 #[.slice a0 len cap, .int .i64 x, .int .i64 1048576] w fun e w' => IsBool e ∧ w' = w := by
  unfold maxLen at hl
  go_enter Try.func6, Try.ntmps6
  go_wp2
  all_goals (try (go_ret; exact ⟨isBool _, rfl⟩))
  go_loop [7, 8] (fun t i => ∃ (m : Int) (k : Nat), k ≤ len ∧ i = .int .i64 k ∧ t = .int .i64 m) (fun _ i => len - (intOf i).toNat)
  case atStart => exact ⟨_, 0, Nat.zero_le _, rfl, rfl⟩
  case round =>
    obtain ⟨m, k, hk, rfl, rfl⟩ := hrel
    by_cases hlt : k < len
    · obtain ⟨b, off, rfl, hcell⟩ := hc k hlt
      clear hc
      go_wp2
      · go_ret
        exact ⟨isBool _, rfl⟩
      · go_round
        case rel => exact ⟨_, k + 1, by omega, by go_num, rfl⟩
        case measure => simp [intOf]; omega
    · go_wp2
      all_goals (go_ret; exact ⟨isBool _, rfl⟩)

/-! ### DropsAll -/
def isAll (s : ByteArray) : Bool := s.toList == [65, 76, 76]
def hasAll (xs : List ByteArray) : Bool := xs.any isAll
theorem hasAll_snoc (xs : List ByteArray) (s : ByteArray) : hasAll (xs ++ [s]) = (hasAll xs || isAll s) := by simp [hasAll]
theorem take_next {xs : List ByteArray} {k : Nat} {s : ByteArray} (h : xs[k]? = some s) : xs.take (k + 1) = xs.take k ++ [s] := by
  rw [List.take_add_one, h]; rfl
theorem hasAll_hit {xs : List ByteArray} {k : Nat} {s : ByteArray} (h : xs[k]? = some s) (hs : (s.toList == [65, 76, 76]) = true) : hasAll xs = true := by
  have : s ∈ xs := List.mem_of_getElem? h
  exact List.any_eq_true.2 ⟨s, this, hs⟩
theorem hasAll_miss {xs : List ByteArray} {k : Nat} {s : ByteArray} (h : xs[k]? = some s) (hs : (s.toList == [65, 76, 76]) = false) (h0 : hasAll (xs.take k) = false) : hasAll (xs.take (k + 1)) = false := by
  rw [take_next h, hasAll_snoc, h0]; exact hs
theorem ret_bool {a b : Bool} (h : a = b) : Ending.returned (.bool a) = .returned (.bool b) := by rw [h]

/-- A nil receiver. -/
theorem drops_nil (w : World) : Calls Try.prog 8 #[.pointer none] w fun e w' => e = .returned (.bool false) ∧ w' = w := by
  go_enter Try.func8, Try.ntmps8
  go_wp2
  go_ret
  exact ⟨rfl, rfl⟩

set_option maxHeartbeats 400000 in
theorem drops_any (b : Nat) (v : Value) (xs : List ByteArray) (base : Nat) (w : World) (hb : w.cell? ⟨b, 0, none⟩ = some v) (hl : xs.length ≤ maxLen) (hown : w.ownsRow base 33 1 v xs.length (xs.map Value.string)) :
    Calls Try.prog 8 #[.pointer (some ⟨b, 0, none⟩)] w fun e w' => e = .returned (.bool (hasAll xs)) ∧ w' = w := by
  unfold maxLen at hl
  obtain ⟨ao, cap, rfl, hcell⟩ : ∃ ao cap, v = .slice ao xs.length cap ∧ ∀ j s, xs[j]? = some s → ∃ g, ao = some ⟨g, 0, none⟩ ∧ w.cell? ⟨g, j, none⟩ = some (.string s) := by
    rcases hown.2 with ⟨rfl, h2⟩ | ⟨g, cap, cur, rfl, hg, hh, h3, h4, h5, h6⟩
    · refine ⟨none, 0, by rw [h2], fun j s hj => ?_⟩
      have := (List.getElem?_eq_some_iff.1 hj).1
      omega
    · refine ⟨_, _, rfl, fun j s hj => ⟨g, rfl, ?_⟩⟩
      have hlt := (List.getElem?_eq_some_iff.1 hj).1
      rw [hown.cellAt j (by omega), List.getElem?_map, hj]; rfl
  have Hc := hide hcell
  clear hcell hown
  go_enter Try.func8, Try.ntmps8
  go_wp2
  go_loop [12] (fun i => ∃ k : Nat, k ≤ xs.length ∧ i = .int .i64 k ∧ Hid (hasAll (xs.take k) = false)) (fun i => xs.length - (intOf i).toNat)
  case atStart => exact ⟨0, Nat.zero_le _, rfl, by simp [Hid, hasAll]⟩
  case round =>
    obtain ⟨k, hk, rfl, H0⟩ := hrel
    by_cases hlt : k < xs.length
    · obtain ⟨s, hs⟩ : ∃ s, xs[k]? = some s := ⟨_, List.getElem?_eq_getElem hlt⟩
      obtain ⟨g, rfl, hcell⟩ := unhide Hc k s hs
      have HS := hide hs
      clear Hc hs
      cases hall : (s.toList == [65, 76, 76])
      · go_wp2
        go_round
        case rel => exact ⟨k + 1, by omega, by go_num, hide (hasAll_miss (unhide HS) hall (unhide H0))⟩
        case measure => simp [intOf]; omega
      · go_wp2
        go_ret
        exact ⟨ret_bool (hasAll_hit (unhide HS) hall).symm, rfl⟩
    · go_wp2
      go_ret
      refine ⟨ret_bool ?_, rfl⟩
      have h0 := unhide H0
      rw [List.take_of_length_le (by omega)] at h0
      exact h0.symm
end Go.Proofs.Qxb6627608a
