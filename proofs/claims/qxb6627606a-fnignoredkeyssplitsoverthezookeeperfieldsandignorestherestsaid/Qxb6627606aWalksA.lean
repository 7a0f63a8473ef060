/-
  The walks of the small functions on the road: zzOneIfB1 (7), zzAddB1 (8), zzAddListB1 (9).
-/
import Derived.Test.Qxb6627606aRows
import Derived.WalkKit
import Derived.WalkSpells
import Derived.WalkLawsBesides
namespace Go.Proofs.Qxb6627606a
open Go.RowKit

theorem hide {p : Prop} (h : p) : Hid p := h
theorem unhide {p : Prop} (h : Hid p) : p := h

/-- A slice of strings whose cells can be read in w. -/
def Strs (w : World) (a : Option Addr) (l : Nat) (ss : List ByteArray) : Prop :=
  ∀ j, j < l → ∃ b off, a = some ⟨b, off, none⟩ ∧ w.cell? ⟨b, off + j, none⟩ = some (.string (ss.getD j ByteArray.empty))
theorem Strs.below {w w' : World} {a : Option Addr} {l : Nat} {ss : List ByteArray} (h : Strs w a l ss) (hb : Below w.heap.size w w') : Strs w' a l ss := by
  intro j hj
  obtain ⟨b, off, ha, hc⟩ := h j hj
  exact ⟨b, off, ha, by rw [← hc]; exact hb.cell (p := ⟨b, off + j, none⟩) (World.block_lt_of_cell? _ _ hc)⟩
theorem Strs.alloc {w : World} {a : Option Addr} {l : Nat} {ss : List ByteArray} (h : Strs w a l ss) (o : Obj) : Strs (w.alloc o) a l ss :=
  h.below ((Below.refl _ _).alloc (Nat.le_refl _) o)

def oneIf (b : Bool) : Int := if b then 1 else 0
theorem oneIf_any (b : Bool) (w : World) :
    Calls Try.prog 7 #[.bool b] w fun e w' => e = .returned (.int .i64 (oneIf b)) ∧ w' = w := by
  cases b
  · go_enter Try.func7, Try.ntmps7
    go_wp2
    go_ret
    exact ⟨rfl, rfl⟩
  · go_enter Try.func7, Try.ntmps7
    go_wp2
    go_ret
    exact ⟨rfl, rfl⟩

/-- zzAddB1: whatever it adds, the sum stays small. -/
theorem add_any (n k : Int) (w : World) (hn : 0 ≤ n) (hk : 0 ≤ k) :
    Calls Try.prog 8 #[.int .i64 n, .int .i64 k] w fun e w' => (∃ r : Int, e = .returned (.int .i64 r) ∧ 0 ≤ r ∧ r ≤ 2097152) ∧ w' = w := by
  by_cases h1 : n ≤ 1048576
  · by_cases h2 : k ≤ 1048576
    · go_enter Try.func8, Try.ntmps8
      go_wp2
      go_ret
      exact ⟨⟨_, rfl, by omega, by omega⟩, rfl⟩
    · go_enter Try.func8, Try.ntmps8
      go_wp2
      go_ret
      exact ⟨⟨_, rfl, by omega, by omega⟩, rfl⟩
  · go_enter Try.func8, Try.ntmps8
    go_wp2
    go_ret
    exact ⟨⟨_, rfl, by omega, by omega⟩, rfl⟩

set_option maxHeartbeats 400000 in
theorem addList_any (n : Int) (a0 : Option Addr) (len cap : Nat) (ss : List ByteArray) (w : World) (hn : 0 ≤ n) (hl : len ≤ maxLen)
    (hc : Strs w a0 len ss) :
    Calls Try.prog 9 #[.int .i64 n, .slice a0 len cap] w fun e w' => (∃ r : Int, e = .returned (.int .i64 r) ∧ 0 ≤ r) ∧ w' = w := by
  unfold maxLen at hl
  go_enter Try.func9, Try.ntmps9
  go_wp2
  go_loop [0, 5] (fun t i => ∃ (m : Int) (k : Nat), k ≤ len ∧ 0 ≤ m ∧ i = .int .i64 k ∧ t = .int .i64 m) (fun _ i => len - (intOf i).toNat)
  case atStart => exact ⟨n, 0, Nat.zero_le _, hn, rfl, rfl⟩
  case round =>
    obtain ⟨m, k, hk, hm, rfl, rfl⟩ := hrel
    by_cases hlt : k < len
    · obtain ⟨b, off, rfl, hcell⟩ := hc k hlt
      clear hc
      go_wp2_with fail
      refine (add_any _ _ _ (by omega) (by omega)).mono ?_
      rintro e w' ⟨⟨r, rfl, hr0, hr1⟩, rfl⟩
      go_wp2_with fail
      refine (add_any _ _ _ (by omega) (by omega)).mono ?_
      rintro e w' ⟨⟨r2, rfl, hr20, hr21⟩, rfl⟩
      go_wp2
      · go_ret
        exact ⟨⟨_, rfl, hr20⟩, rfl⟩
      · go_round
        case rel => exact ⟨r2, k + 1, by omega, hr20, by go_num, rfl⟩
        case measure => simp [intOf]; omega
    · go_wp2
      go_ret
      exact ⟨⟨_, rfl, hm⟩, rfl⟩
end Go.Proofs.Qxb6627606a
