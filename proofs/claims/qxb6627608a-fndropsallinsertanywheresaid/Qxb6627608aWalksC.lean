/-
  zzInsert (9), zzStrip (11): lists in new memory, by append.
-/
import Derived.Test.Qxb6627608aWalksB
namespace Go.Proofs.Qxb6627608a
open Go.RowKit

theorem drop_cons {ss : List ByteArray} {len k : Nat} (hk : k < len) (hl : len ≤ ss.length) : (ss.take len).drop k = ss.getD k ByteArray.empty :: (ss.take len).drop (k + 1) := by
  rw [List.drop_eq_getElem_cons (by simp; omega)]
  congr 1
  rw [List.getElem_take, List.getD, List.getElem?_eq_getElem (by omega)]; rfl
theorem take_push {ss : List ByteArray} {len k : Nat} (hk : k < len) (hl : len ≤ ss.length) : ss.take (k + 1) = ss.take k ++ [ss.getD k ByteArray.empty] := by
  have hg : ss[k]? = some ss[k] := List.getElem?_eq_getElem (by omega)
  rw [take_next hg, List.getD, hg]; rfl
/-- The list with x put in at place i. -/
def ins (ss : List ByteArray) (len i : Nat) (x : ByteArray) : List ByteArray := ss.take i ++ [x] ++ (ss.take len).drop i
/-- Behind the first i, x, and the following up to k. -/
def insTo (ss : List ByteArray) (i : Nat) (x : ByteArray) (k : Nat) : List ByteArray := ss.take i ++ [x] ++ (ss.take k).drop i
theorem insTo_next {ss : List ByteArray} {len i k : Nat} {x : ByteArray} (hi : i ≤ k) (hk : k < len) (hl : len ≤ ss.length) : insTo ss i x (k + 1) = insTo ss i x k ++ [ss.getD k ByteArray.empty] := by
  unfold insTo
  rw [take_push hk hl, List.drop_append_of_le_length (by simp; omega)]
  simp
theorem insTo_start {ss : List ByteArray} {i : Nat} {x : ByteArray} : insTo ss i x i = ss.take i ++ [x] := by
  unfold insTo
  rw [List.drop_eq_nil_of_le (by simp; omega)]
  simp
theorem insTo_le {ss : List ByteArray} {len i k : Nat} {x : ByteArray} (hi : i ≤ k) (hk : k ≤ len) : (insTo ss i x k).length ≤ len + 1 := by
  unfold insTo
  simp
  omega

theorem own_len {w wr : World} {v : Value} {xs : List ByteArray} (h : Own w wr v xs) : wr.ownsRow w.heap.size 33 1 v xs.length (xs.map Value.string) ∧ w.heap.size ≤ wr.heap.size := ⟨h.1, h.2.size⟩

set_option maxHeartbeats 800000 in
theorem insert_any (a0 : Option Addr) (len cap i : Nat) (x : ByteArray) (ss : List ByteArray) (w : World) (hl : len ≤ 65536) (hi : i ≤ len) (hls : len ≤ ss.length) (hc : Strs w a0 len ss) :
    Calls Try.prog 9 #[.slice a0 len cap, .int .i64 i, .string x] w fun e w' => ∃ v, e = .returned v ∧ Own w w' v (ins ss len i x) := by
  obtain ⟨i0, hif, hz0, hz1, hz2⟩ := info_parts Try.info33
  have HC := hide hc
  clear hc
  go_enter Try.func9, Try.ntmps9
  go_wp2_with (at_make; refine wpList_make_own _ rfl _ _ 26 rfl w.heap.size 33 i0 (.string ⟨#[]⟩) 1 Try.underlying26 hif hz0 hz1 _ _ _ (len + 1) rfl rfl (by omega) (by rw [hz2]; omega) (by unfold maxLen; omega) (Nat.le_refl _) ?_)
  intro w1 hown hgrow
  have HR : Hid (Own w w1 (.slice (some ⟨w.heap.size, 0, none⟩) 0 (len + 1)) (ss.take 0)) := hide ⟨hown, (Below.refl _ _).grown hgrow (Nat.le_refl _) (fun _ h => by cases h)⟩
  clear hown hgrow
  go_wp2
  go_loopw [7, 8] (fun v t wr => ∃ k : Nat, k ≤ i ∧ t = .int .i64 k ∧ Hid (Own w wr v (ss.take k))) (fun _ t _ => i - (intOf t).toNat)
  case atStart => exact ⟨0, Nat.zero_le _, rfl, HR⟩
  clear HR
  obtain ⟨k, hk, rfl, HK⟩ := hrel
  by_cases hlt : k < i
  · obtain ⟨b, off, rfl, hcell⟩ := ((unhide HC).below (unhide HK).2) k (by omega)
    have hkl : (k : Int) < (len : Int) := by omega
    have hlen : (ss.take k).length ≤ 65536 := by simp; omega
    obtain ⟨xs, hxs⟩ : ∃ xs, xs = ss.take k := ⟨_, rfl⟩
    rw [← hxs] at HK hlen
    have HX := hide hxs
    clear hxs HC
    obtain ⟨hown, hsz⟩ := own_len (unhide HK)
    go_wp2_with (at_builtin; refine wpList_append_own _ rfl _ _ 26 rfl w.heap.size 33 i0 (.string ⟨#[]⟩) 1 16 Try.underlying26 hif hz0 hz1 hz2 rfl (by decide) _ _ _ rfl (hown.alloc _) ⟨wr.heap.size, 0, none⟩ 1 1 [.string (ss.getD k ByteArray.empty)] rfl rfl (by simpa using one_new _ _ _) (one_str _) (by unfold maxLen; omega) (by omega) (by simp; omega) ?_)
    intro v' w2 hown' hgrow _
    have HP := hide (own_push (s := ss.getD k ByteArray.empty) _ (unhide HK) (by simpa using hown') hgrow)
    clear hown' hgrow hown HK
    go_wp2
    go_roundw
    case rel => exact ⟨k + 1, by omega, by go_num, by rw [take_push (len := len) (by omega) hls, ← unhide HX]; exact HP⟩
    case measure => simp [intOf]; omega
  · obtain rfl : k = i := by omega
    have hlen : (ss.take k).length ≤ 65536 := by simp; omega
    obtain ⟨xs, hxs⟩ : ∃ xs, xs = ss.take k := ⟨_, rfl⟩
    rw [← hxs] at HK hlen
    have HX := hide hxs
    clear hxs
    obtain ⟨hown, hsz⟩ := own_len (unhide HK)
    go_wp2_with (at_builtin; refine wpList_append_own _ rfl _ _ 26 rfl w.heap.size 33 i0 (.string ⟨#[]⟩) 1 16 Try.underlying26 hif hz0 hz1 hz2 rfl (by decide) _ _ _ rfl (hown.alloc _) ⟨wr.heap.size, 0, none⟩ 1 1 [.string x] rfl rfl (by simpa using one_new _ _ _) (one_str _) (by unfold maxLen; omega) (by omega) (by simp; omega) ?_)
    intro v' w2 hown' hgrow _
    have HP := hide (own_push (s := x) _ (unhide HK) (by simpa using hown') hgrow)
    rw [unhide HX, ← insTo_start] at HP
    clear hown' hgrow hown HK HX hsz hlen xs
    go_wp2
    go_loopw [7, 9] (fun v t wr => ∃ j : Nat, k ≤ j ∧ j ≤ len ∧ t = .int .i64 j ∧ Hid (Own w wr v (insTo ss k x j))) (fun _ t _ => len - (intOf t).toNat)
    case atStart => exact ⟨k, Nat.le_refl _, hi, rfl, HP⟩
    clear HP
    obtain ⟨j, hkj, hjl, rfl, HJ⟩ := hrel
    by_cases hlt : j < len
    · obtain ⟨b, off, rfl, hcell⟩ := ((unhide HC).below (unhide HJ).2) j (by omega)
      have hlen := insTo_le (ss := ss) (x := x) hkj hjl
      obtain ⟨xs, hxs⟩ : ∃ xs, xs = insTo ss k x j := ⟨_, rfl⟩
      rw [← hxs] at HJ hlen
      have HX := hide hxs
      clear hxs HC
      obtain ⟨hown, hsz⟩ := own_len (unhide HJ)
      go_wp2_with (at_builtin; refine wpList_append_own _ rfl _ _ 26 rfl w.heap.size 33 i0 (.string ⟨#[]⟩) 1 16 Try.underlying26 hif hz0 hz1 hz2 rfl (by decide) _ _ _ rfl (hown.alloc _) ⟨wr.heap.size, 0, none⟩ 1 1 [.string (ss.getD j ByteArray.empty)] rfl rfl (by simpa using one_new _ _ _) (one_str _) (by unfold maxLen; omega) (by omega) (by simp; omega) ?_)
      intro v' w3 hown' hgrow _
      have HP := hide (own_push (s := ss.getD j ByteArray.empty) _ (unhide HJ) (by simpa using hown') hgrow)
      clear hown' hgrow hown HJ
      go_wp2
      go_roundw
      case rel => exact ⟨j + 1, by omega, by omega, by go_num, by rw [insTo_next hkj hlt hls, ← unhide HX]; exact HP⟩
      case measure => simp [intOf]; omega
    · obtain rfl : j = len := by omega
      go_wp2
      go_ret
      exact ⟨_, rfl, unhide HJ⟩

/-! ### zzStrip -/
def strip (xs : List ByteArray) : List ByteArray := xs.filter fun s => !isAll s
theorem strip_le (xs : List ByteArray) : (strip xs).length ≤ xs.length := List.length_filter_le _ _
theorem strip_hit (xs : List ByteArray) {s : ByteArray} (h : (s.toList == [65, 76, 76]) = true) : strip (xs ++ [s]) = strip xs := by
  unfold strip; simp [isAll]; simpa using h
theorem strip_miss (xs : List ByteArray) {s : ByteArray} (h : (s.toList == [65, 76, 76]) = false) : strip (xs ++ [s]) = strip xs ++ [s] := by
  unfold strip; simp [isAll]; simpa using h

set_option maxHeartbeats 800000 in
theorem strip_any (a0 : Option Addr) (len cap : Nat) (ss : List ByteArray) (w : World) (hl : len ≤ 65536) (hls : len ≤ ss.length) (hc : Strs w a0 len ss) :
    Calls Try.prog 11 #[.slice a0 len cap] w fun e w' => ∃ v, e = .returned v ∧ Own w w' v (strip (ss.take len)) := by
  obtain ⟨i0, hif, hz0, hz1, hz2⟩ := info_parts Try.info33
  have HC := hide hc
  clear hc
  go_enter Try.func11, Try.ntmps11
  go_wp2_with (at_make; refine wpList_make_own _ rfl _ _ 26 rfl w.heap.size 33 i0 (.string ⟨#[]⟩) 1 Try.underlying26 hif hz0 hz1 _ _ _ len rfl rfl (by omega) (by rw [hz2]; omega) (by unfold maxLen; omega) (Nat.le_refl _) ?_)
  intro w1 hown hgrow
  have HR : Hid (Own w w1 (.slice (some ⟨w.heap.size, 0, none⟩) 0 len) (strip (ss.take 0))) := hide ⟨hown, (Below.refl _ _).grown hgrow (Nat.le_refl _) (fun _ h => by cases h)⟩
  clear hown hgrow
  go_wp2
  go_loopw [3, 4] (fun v t wr => ∃ k : Nat, k ≤ len ∧ t = .int .i64 k ∧ Hid (Own w wr v (strip (ss.take k)))) (fun _ t _ => len - (intOf t).toNat)
  case atStart => exact ⟨0, Nat.zero_le _, rfl, HR⟩
  clear HR
  obtain ⟨k, hk, rfl, HK⟩ := hrel
  by_cases hlt : k < len
  · obtain ⟨b, off, rfl, hcell⟩ := ((unhide HC).below (unhide HK).2) k (by omega)
    clear HC
    obtain ⟨s, hs⟩ : ∃ s, s = ss.getD k ByteArray.empty := ⟨_, rfl⟩
    rw [← hs] at hcell
    have hlen : (strip (ss.take k)).length ≤ 65536 := Nat.le_trans (strip_le _) (by simp; omega)
    have HT : Hid (ss.take (k + 1) = ss.take k ++ [s]) := hide (by rw [hs]; exact take_push hlt hls)
    clear hs
    obtain ⟨xs, hxs⟩ : ∃ xs, xs = strip (ss.take k) := ⟨_, rfl⟩
    rw [← hxs] at HK hlen
    have HX := hide hxs
    clear hxs
    cases hall : (s.toList == [65, 76, 76])
    · obtain ⟨hown, hsz⟩ := own_len (unhide HK)
      go_wp2_with (at_builtin; refine wpList_append_own _ rfl _ _ 26 rfl w.heap.size 33 i0 (.string ⟨#[]⟩) 1 16 Try.underlying26 hif hz0 hz1 hz2 rfl (by decide) _ _ _ rfl (hown.alloc _) ⟨wr.heap.size, 0, none⟩ 1 1 [.string s] rfl rfl (by simpa using one_new _ _ _) (one_str _) (by unfold maxLen; omega) (by omega) (by simp; omega) ?_)
      intro v' w2 hown' hgrow _
      have HP := hide (own_push (s := s) _ (unhide HK) (by simpa using hown') hgrow)
      clear hown' hgrow hown HK
      go_wp2
      go_roundw
      case rel => exact ⟨k + 1, by omega, by go_num, by rw [unhide HT, strip_miss _ hall, ← unhide HX]; exact HP⟩
      case measure => simp [intOf]; omega
    · go_wp2
      go_roundw
      case rel => exact ⟨k + 1, by omega, by go_num, by rw [unhide HT, strip_hit _ hall, ← unhide HX]; exact HK⟩
      case measure => simp [intOf]; omega
  · obtain rfl : k = len := by omega
    go_wp2
    go_ret
    exact ⟨_, rfl, unhide HK⟩
end Go.Proofs.Qxb6627608a
