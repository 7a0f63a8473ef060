/-
  The size guards (5, 13), eventsOf (7), ZZnewLog (6).
-/
import Derived.Test.Qxb6627683aWalksA
namespace Go.Proofs.Qxb6627683a
open Go.RowKit

set_option maxHeartbeats 400000 in
theorem guard5_any (a0 : Option Addr) (cap : Nat) (i : Int) (L : List (List UInt8)) (w : World) (hl : L.length ≤ maxLen) (hr : Row w a0 L) :
    Calls Try.prog 5 #[.slice a0 L.length cap, .int .i64 i] w fun e w' => IsBool e ∧ w' = w := by
  unfold maxLen at hl
  have HR := hide hr
  clear hr
  go_enter Try.func5, Try.ntmps5
  go_wp2
  all_goals (try (go_ret; exact ⟨isBool _, rfl⟩))
  go_loop [5, 6] (fun t i => ∃ (m : Int) (k : Nat), k ≤ L.length ∧ i = .int .i64 k ∧ t = .int .i64 m) (fun _ i => L.length - (intOf i).toNat)
  case atStart => exact ⟨_, 0, Nat.zero_le _, rfl, rfl⟩
  case round =>
    obtain ⟨m, k, hk, rfl, rfl⟩ := hrel
    by_cases hlt : k < L.length
    · obtain ⟨x, hx⟩ : ∃ x, L[k]? = some x := ⟨_, List.getElem?_eq_getElem hlt⟩
      obtain ⟨b, off, rfl, hcell⟩ := unhide HR k x hx
      clear HR hx
      go_wp2
      · go_ret
        exact ⟨isBool _, rfl⟩
      · go_ret
        exact ⟨isBool _, rfl⟩
      · go_round
        case rel => exact ⟨_, k + 1, by omega, by go_num, rfl⟩
        case measure => simp [intOf]; omega
    · go_wp2
      all_goals (go_ret; exact ⟨isBool _, rfl⟩)

set_option maxHeartbeats 400000 in
theorem guard13_any (a0 : Option Addr) (cap : Nat) (i : Int) (L : List (List UInt8)) (w : World) (hl : L.length ≤ maxLen) (hr : Row w a0 L) :
    Calls Try.prog 13 #[.slice a0 L.length cap, .int .i64 i] w fun e w' => IsBool e ∧ w' = w := by
  unfold maxLen at hl
  have HR := hide hr
  clear hr
  go_enter Try.func13, Try.ntmps13
  go_wp2
  all_goals (try (go_ret; exact ⟨isBool _, rfl⟩))
  go_loop [5, 6] (fun t i => ∃ (m : Int) (k : Nat), k ≤ L.length ∧ i = .int .i64 k ∧ t = .int .i64 m) (fun _ i => L.length - (intOf i).toNat)
  case atStart => exact ⟨_, 0, Nat.zero_le _, rfl, rfl⟩
  case round =>
    obtain ⟨m, k, hk, rfl, rfl⟩ := hrel
    by_cases hlt : k < L.length
    · obtain ⟨x, hx⟩ : ∃ x, L[k]? = some x := ⟨_, List.getElem?_eq_getElem hlt⟩
      obtain ⟨b, off, rfl, hcell⟩ := unhide HR k x hx
      clear HR hx
      go_wp2
      · go_ret
        exact ⟨isBool _, rfl⟩
      · go_ret
        exact ⟨isBool _, rfl⟩
      · go_round
        case rel => exact ⟨_, k + 1, by omega, by go_num, rfl⟩
        case measure => simp [intOf]; omega
    · go_wp2
      all_goals (go_ret; exact ⟨isBool _, rfl⟩)

/-! ### eventsOf -/
theorem Try.info45 : (Try.prog.info? 45).map (fun i => (i.zero, i.size, i.bytes)) = some (some (.agg #[.int .i64 0, .string ⟨#[]⟩, .map none, .string ⟨#[]⟩]), 4, 48) := by kernel_rfl
theorem Try.info9 : (Try.prog.info? 9).map (fun i => (i.zero, i.size, i.bytes)) = some (some (.string ⟨#[]⟩), 1, 16) := by kernel_rfl
/-- The four cells of an event of host x. -/
def cell4 (x : List UInt8) : List Value := [.int .i64 0, .string (mkS x), .map none, .string ⟨#[]⟩]
def evs (S : List (List UInt8)) : List Value := S.flatMap cell4
theorem evs_cons (x : List UInt8) (S : List (List UInt8)) : evs (x :: S) = .int .i64 0 :: .string (mkS x) :: .map none :: .string ⟨#[]⟩ :: evs S := by simp [evs, cell4]
theorem evs_length (S : List (List UInt8)) : (evs S).length = S.length * 4 := by
  induction S with
  | nil => rfl
  | cons x S ih => rw [evs_cons]; simp [ih]; omega
theorem evs_get (S : List (List UInt8)) : ∀ (k : Nat) (x : List UInt8), S[k]? = some x → (evs S)[k * 4]? = some (.int .i64 0) ∧ (evs S)[k * 4 + 1]? = some (.string (mkS x)) ∧ (evs S)[k * 4 + 2]? = some (.map none) ∧ (evs S)[k * 4 + 3]? = some (.string ⟨#[]⟩) := by
  induction S with
  | nil => intro k x h; simp at h
  | cons y S ih =>
    intro k x h
    rw [evs_cons]
    cases k with
    | zero => simp at h; subst h; simp
    | succ k =>
      have := ih k x (by simpa using h)
      have e : (k + 1) * 4 = k * 4 + 4 := by omega
      simp only [e, show k * 4 + 4 + 1 = (k * 4 + 1) + 4 by omega, show k * 4 + 4 + 2 = (k * 4 + 2) + 4 by omega, show k * 4 + 4 + 3 = (k * 4 + 3) + 4 by omega, List.getElem?_cons_succ]
      exact this
theorem evs_set (S : List (List UInt8)) : ∀ (k : Nat) (x : List UInt8), (evs S).set (k * 4 + 1) (.string (mkS x)) = evs (S.set k x) := by
  induction S with
  | nil => intro k x; simp [evs]
  | cons y S ih =>
    intro k x
    rw [evs_cons]
    cases k with
    | zero => simp [evs_cons]
    | succ k =>
      rw [show (k + 1) * 4 + 1 = (k * 4 + 1) + 4 by omega]
      simp only [List.set_cons_succ]
      rw [evs_cons, ih]
theorem evs_made (n : Nat) : (madeCells #[.int .i64 0, .string ⟨#[]⟩, .map none, .string ⟨#[]⟩] (n * 4)).toList = evs (List.replicate n []) := by
  apply List.ext_getElem?
  intro j
  by_cases hj : j < n * 4
  · obtain ⟨k, r, hr, rfl⟩ : ∃ k r, r < 4 ∧ j = k * 4 + r := ⟨j / 4, j % 4, by omega, by omega⟩
    have hk : (List.replicate n ([] : List UInt8))[k]? = some [] := by rw [List.getElem?_replicate, if_pos (by omega)]
    have hg := evs_get _ k [] hk
    have hm : (k * 4 + r) % 4 = r := by omega
    rcases (show r = 0 ∨ r = 1 ∨ r = 2 ∨ r = 3 by omega) with rfl | rfl | rfl | rfl
    · rw [Nat.add_zero] at hj hm ⊢
      rw [hg.1]; simp [madeCells, hj, hm]
    · rw [hg.2.1]; simp [madeCells, hj, hm]; rfl
    · rw [hg.2.2.1]; simp [madeCells, hj, hm]
    · rw [hg.2.2.2]; simp [madeCells, hj, hm]
  · rw [List.getElem?_eq_none (by rw [Array.length_toList, size_madeCells]; omega), List.getElem?_eq_none (by rw [evs_length, List.length_replicate]; omega)]
def part (n : Nat) (L : List (List UInt8)) (k : Nat) : List (List UInt8) := L.take k ++ List.replicate (n - k) []
theorem part_set {L : List (List UInt8)} {k : Nat} {x : List UInt8} (h : L[k]? = some x) : (part L.length L k).set k x = part L.length L (k + 1) := by
  have hk := (List.getElem?_eq_some_iff.1 h).1
  unfold part
  rw [List.take_add_one, h, show L.length - k = (L.length - (k + 1)) + 1 by omega, List.replicate_succ, List.set_append_right _ _ (by simp; omega)]
  simp only [List.length_take, show min k L.length = k by omega, Nat.sub_self, List.set_cons_zero]
  simp
theorem part_length (L : List (List UInt8)) (k : Nat) (hk : k ≤ L.length) : (part L.length L k).length = L.length := by simp [part]; omega
theorem part_end (L : List (List UInt8)) : part L.length L L.length = L := by simp [part]

/-- A slice of events of the call's own, whose hosts are L. -/
def Evs (w wr : World) (g n : Nat) (S : List (List UInt8)) : Prop :=
  wr.ownsRow w.heap.size 45 4 (.slice (some ⟨g, 0, none⟩) n n) n (evs S) ∧ Below w.heap.size w wr
theorem Evs.store {w wr : World} {g n : Nat} {S : List (List UInt8)} {k : Nat} {x : List UInt8} (h : Evs w wr g n S) (hg : w.heap.size ≤ g) : Evs w (wr.setCell ⟨g, k * 4 + 1, none⟩ (.string (mkS x))) g n (S.set k x) := by
  refine ⟨?_, h.2.setCell hg _⟩
  rw [← evs_set]
  exact (h.1.stored _ _).1

set_option maxHeartbeats 400000 in
theorem events_any (a0 : Option Addr) (cap : Nat) (L : List (List UInt8)) (w : World) (hl : L.length ≤ 65536) (hr : Row w a0 L) :
    Calls Try.prog 7 #[.slice a0 L.length cap] w fun e w' => e = .returned (.slice (some ⟨w.heap.size, 0, none⟩) L.length L.length) ∧ Evs w w' w.heap.size L.length L := by
  obtain ⟨i0, hi, hz0, hz1, hz2⟩ := info_parts Try.info45
  have HR := hide hr
  clear hr
  go_enter Try.func7, Try.ntmps7
  go_wp2_with (at_make; refine wpList_make_full _ rfl _ _ 26 rfl w.heap.size 45 i0 (.agg #[.int .i64 0, .string ⟨#[]⟩, .map none, .string ⟨#[]⟩]) 4 Try.underlying26 hi hz0 hz1 _ _ _ _ L.length rfl rfl rfl rfl (by rw [hz2]; omega) (by unfold maxLen; omega) (Nat.le_refl _) ?_)
  intro w1 hown hgrow
  have HE : Hid (Evs w w1 w.heap.size L.length (part L.length L 0)) := hide ⟨by rw [show part L.length L 0 = List.replicate L.length [] by simp [part], ← evs_made]; exact hown, (Below.refl _ _).grown hgrow (Nat.le_refl _) (fun _ h => by cases h)⟩
  clear hown hgrow
  go_wp2
  go_loopw [4] (fun i wr => ∃ k : Nat, k ≤ L.length ∧ i = .int .i64 k ∧ Hid (Evs w wr w.heap.size L.length (part L.length L k))) (fun i _ => L.length - (intOf i).toNat)
  case atStart => exact ⟨0, Nat.zero_le _, rfl, HE⟩
  clear HE
  obtain ⟨k, hk, rfl, HK⟩ := hrel
  by_cases hlt : k < L.length
  · obtain ⟨x, hx⟩ : ∃ x, L[k]? = some x := ⟨_, List.getElem?_eq_getElem hlt⟩
    obtain ⟨b, off, rfl, hcell⟩ := ((unhide HR).below (unhide HK).2) k x hx
    have hfz := (unhide HK).1.frozenAt (k * 4 + 1)
    obtain ⟨y, hy⟩ : ∃ y, (part L.length L k)[k]? = some y := ⟨_, List.getElem?_eq_getElem (by rw [part_length _ _ hk]; omega)⟩
    have hg2 : wr.cell? ⟨w.heap.size, k * 4 + 1, none⟩ = some (.string (mkS y)) := by
      rw [(unhide HK).1.cellAt (k * 4 + 1) (by omega)]; exact (evs_get _ k y hy).2.1
    have HN : Hid (Evs w (wr.setCell ⟨w.heap.size, k * 4 + 1, none⟩ (.string (mkS x))) w.heap.size L.length (part L.length L (k + 1))) := hide (by rw [← part_set hx]; exact (unhide HK).store (Nat.le_refl _))
    clear HK HR hx hy
    go_wp2
    go_roundw
    case rel => exact ⟨k + 1, by omega, by go_num, HN⟩
    case measure => simp [intOf]; omega
  · obtain rfl : k = L.length := by omega
    rw [part_end] at HK
    go_wp2
    go_ret
    exact ⟨rfl, unhide HK⟩

/-! ### ZZnewLog -/
theorem newLog_any (v : Option Addr) (n c : Nat) (w : World) :
    Calls Try.prog 6 #[.slice v n c] w fun e w' => e = .returned (.pointer (some ⟨w.heap.size, 0, none⟩)) ∧ w' = w.alloc (.cells #[.slice v n c, .slice none 0 0, .map none, .slice none 0 0, .slice none 0 0, .int .u64 0] 41) := by
  go_enter Try.func6, Try.ntmps6
  go_wp2
  go_ret
  exact ⟨rfl, rfl⟩
end Go.Proofs.Qxb6627683a
