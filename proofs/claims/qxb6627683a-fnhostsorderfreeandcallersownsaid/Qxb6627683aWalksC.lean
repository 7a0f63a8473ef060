/-
  (*Log).Hosts (8): the sorted set of the events' hosts, in new memory. slices.Sort and slices.Compact by the library's contracts.
-/
import Derived.Test.Qxb6627683aWalksB
import Derived.Test.Qxb6627683aShelf
import Derived.Sort.OwnSorted
import Derived.Sort.Grow
import Derived.Lib.OwnBridge
namespace Go.Proofs.Qxb6627683a
open Go.RowKit Go.Sort

/-- Events that can be read in w: their hosts are L. -/
def EvR (w : World) (g : Nat) (L : List (List UInt8)) : Prop :=
  ∀ j x, L[j]? = some x → w.cell? ⟨g, j * 4, none⟩ = some (.int .i64 0) ∧ w.cell? ⟨g, j * 4 + 1, none⟩ = some (.string (mkS x)) ∧ w.cell? ⟨g, j * 4 + 2, none⟩ = some (.map none) ∧ w.cell? ⟨g, j * 4 + 3, none⟩ = some (.string ⟨#[]⟩)
theorem EvR.below {w w' : World} {g : Nat} {L : List (List UInt8)} (h : EvR w g L) (hb : Below w.heap.size w w') : EvR w' g L := by
  intro j x hj
  obtain ⟨h0, h1, h2, h3⟩ := h j x hj
  have hg := World.block_lt_of_cell? _ _ h0
  exact ⟨by rw [← h0]; exact hb.cell hg, by rw [← h1]; exact hb.cell hg, by rw [← h2]; exact hb.cell hg, by rw [← h3]; exact hb.cell hg⟩
theorem Evs.read {w wr : World} {g : Nat} {L : List (List UInt8)} (h : Evs w wr g L.length L) : EvR wr g L := by
  intro j x hj
  have hl := (List.getElem?_eq_some_iff.1 hj).1
  obtain ⟨e0, e1, e2, e3⟩ := evs_get L j x hj
  exact ⟨by rw [h.1.cellAt _ (by omega), e0], by rw [h.1.cellAt _ (by omega), e1], by rw [h.1.cellAt _ (by omega), e2], by rw [h.1.cellAt _ (by omega), e3]⟩

/-- The slice that is handed back owns the strings S; below, nothing has turned. -/
def Left (w : World) (S : List (List UInt8)) (e : Ending) (w' : World) : Prop :=
  ∃ g cap, e = .returned (.slice (some ⟨g, 0, none⟩) S.length cap) ∧ w'.ownsRow w.heap.size 9 1 (.slice (some ⟨g, 0, none⟩) S.length cap) S.length (S.map encStr) ∧ Below w.heap.size w w'
theorem left_of {w w1 : World} {g cap nn q : Nat} {os : Array Obj} {L : List (List UInt8)} (hown : w1.ownsRow w.heap.size 9 1 (.slice (some ⟨g, 0, none⟩) L.length cap) L.length (L.map encStr)) (hbel : Below w.heap.size w w1) (hbg : w.heap.size ≤ g) :
    Left w (hostsOf L) (.returned (.slice (some ⟨g, 0, none⟩) (hostsOf L).length cap))
      (putRow encStr (Sort.ahead (grow (putRow encStr (Sort.ahead w1 nn) g 0 (sorted L).toArray) os) q) g 0 (hostsOf L ++ List.replicate (L.length - (hostsOf L).length) []).toArray) := by
  have hl2 := sorted_length L
  have hle := hosts_le L
  rcases hown.2 with ⟨h0, _⟩ | ⟨g', cap', cur, hv, hbase, hb, h1, h2, h3, h4⟩
  · cases h0
  cases hv
  have hs := ownsRow_sorted (n := nn) (os := os) (ts := sorted L) hl2 hbase hb h1 h2 h3
  have hc := Lib.ownsRow_putRow (q := q) (k := (hostsOf L).length) (ys := hostsOf L ++ List.replicate (L.length - (hostsOf L).length) []) hs (by simp; omega) (by omega)
  rw [List.take_left] at hc
  exact ⟨g, cap, rfl, hc, Lib.below_putRow (hbel.grown (grownBy_sorted _) hbel.size (fun j hj => by cases hj; exact hbase)) hbg⟩

/-- What holds at each round's head. -/
def HRel (w wr : World) (n : Nat) (S : List (List UInt8)) : Prop :=
  wr.ownsRow w.heap.size 9 1 (.slice (some ⟨w.heap.size, 0, none⟩) n n) n (S.map encStr) ∧ Below w.heap.size w wr
theorem hrel_store {w wr : World} {n : Nat} {S : List (List UInt8)} {k : Nat} {x : List UInt8} (o : Obj) (h : HRel w wr n S) : HRel w ((wr.setCell ⟨w.heap.size, k, none⟩ (.string (mkS x))).alloc o) n (S.set k x) := by
  refine ⟨?_, (h.2.setCell (Nat.le_refl _) _).alloc (by have := h.2.size; simp [World.setCell]; omega) _⟩
  have := (h.1.stored k (.string (mkS x))).1.alloc o
  rw [List.map_set]
  exact this
theorem hrel_start {w w1 : World} {n : Nat} (hown : w1.ownsRow w.heap.size 9 1 (.slice (some ⟨w.heap.size, 0, none⟩) n n) n (madeCells #[.string ⟨#[]⟩] n).toList) (hb : Below w.heap.size w w1) : HRel w w1 n (List.replicate n []) := by
  refine ⟨?_, hb⟩
  rw [toList_madeCells_one] at hown
  rw [List.map_replicate]
  exact hown

set_option maxHeartbeats 1000000 in
set_option maxRecDepth 100000 in
theorem hosts_any (b g : Nat) (L : List (List UInt8)) (w : World) (hl : L.length ≤ 65536) (hb : w.cell? ⟨b, 0, none⟩ = some (.slice (some ⟨g, 0, none⟩) L.length L.length)) (he : EvR w g L) :
    Calls Try.prog 8 #[.pointer (some ⟨b, 0, none⟩)] w (Left w (hostsOf L)) := by
  obtain ⟨i0, hi, hz0, hz1, hz2⟩ := info_parts Try.info9
  have HE := hide he
  have hblt := World.block_lt_of_cell? _ _ hb
  clear he
  go_enter Try.func8, Try.ntmps8
  go_wp2_with (at_make; refine wpList_make_full _ rfl _ _ 22 rfl w.heap.size 9 i0 (.string ⟨#[]⟩) 1 Try.underlying22 hi hz0 hz1 _ _ _ _ L.length rfl rfl rfl rfl (by rw [hz2]; omega) (by unfold maxLen; omega) (Nat.le_refl _) ?_)
  intro w1 hown hgrow
  have hbel : Below w.heap.size w w1 := (Below.refl _ _).grown hgrow (Nat.le_refl _) (fun _ h => by cases h)
  have hb1 : w1.cell? ⟨b, 0, none⟩ = some (.slice (some ⟨g, 0, none⟩) L.length L.length) := by rw [← hb]; exact hbel.cell hblt
  have HR : Hid (HRel w w1 L.length (part L.length L 0)) := hide (by rw [show part L.length L 0 = List.replicate L.length [] by simp [part]]; exact hrel_start (by simpa using hown) hbel)
  clear hown hgrow hbel hb
  go_wp2
  go_loopw [17] (fun i wr => ∃ k : Nat, k ≤ L.length ∧ i = .int .i64 k ∧ Hid (HRel w wr L.length (part L.length L k))) (fun i _ => L.length - (intOf i).toNat)
  case atStart => exact ⟨0, Nat.zero_le _, rfl, HR⟩
  clear HR
  obtain ⟨k, hk, rfl, HK⟩ := hrel
  by_cases hlt : k < L.length
  · obtain ⟨x, hx⟩ : ∃ x, L[k]? = some x := ⟨_, List.getElem?_eq_getElem hlt⟩
    obtain ⟨e0, e1, e2, e3⟩ := ((unhide HE).below (unhide HK).2) k x hx
    have hfz := (unhide HK).1.frozenAt k
    obtain ⟨y, hy⟩ : ∃ y, (part L.length L k)[k]? = some y := ⟨_, List.getElem?_eq_getElem (by rw [part_length _ _ hk]; omega)⟩
    have hg2 : wr.cell? ⟨w.heap.size, k, none⟩ = some (.string (mkS y)) := by
      rw [(unhide HK).1.cellAt k (by omega), List.getElem?_map, hy]; rfl
    have hsz := (unhide HK).2.size
    have HN : Hid (∀ o, HRel w ((wr.setCell ⟨w.heap.size, k, none⟩ (.string (mkS x))).alloc o) L.length (part L.length L (k + 1))) := hide (fun o => by rw [← part_set hx]; exact hrel_store o (unhide HK))
    have hne : w.heap.size < wr.heap.size := World.block_lt_of_cell? _ _ hg2
    clear HK HE hx hy hb1
    go_wp2
    go_roundw
    case rel => exact ⟨k + 1, by omega, by go_num, hide (unhide HN _)⟩
    case measure => simp [intOf]; omega
  · obtain rfl : k = L.length := by omega
    rw [part_end] at HK
    obtain ⟨hown, hbel⟩ := unhide HK
    obtain ⟨g', cap', hv, hbg, hgl, hncap, hcm, hlen, hH⟩ := Lib.holds_of_ownsRow hown (by simp)
    simp only [Value.slice.injEq, Option.some.injEq, Addr.mk.injEq, and_true, true_and] at hv
    obtain ⟨rfl, rfl⟩ := hv
    have hsort := Try.slices_Sort_string w.heap.size 0 L.length L wr hH hgl (by omega)
    have HSO := hide hsort
    clear hown hbel hcm hlen hncap hsort
    go_wp2_with fail
    refine (unhide HSO).mono ?_
    rintro e w2 ⟨rfl, nn, os, rfl⟩
    have hl2 : (sorted L).length = L.length := sorted_length L
    have hH2 : Holds encStr (grow (putRow encStr (Sort.ahead wr nn) w.heap.size 0 (sorted L).toArray) os) w.heap.size 0 (sorted L).toArray :=
      holds_grow encStr _ os _ 0 _ (by simpa [putRow, mapBlock, Sort.ahead] using hgl) (holds_putRow encStr _ _ 0 _ _ (holds_ahead encStr wr nn _ 0 _ hH) (by simp [hl2]))
    have hcomp := Try.slices_Compact_string w.heap.size 0 L.length (sorted L) _ hH2 (by omega) (by omega)
    rw [hl2] at hcomp
    have HCO := hide hcomp
    clear hcomp hH2 hH hl2 HSO
    go_wp2_with fail
    refine (unhide HCO).mono ?_
    rintro e w3 ⟨rfl, q, rfl⟩
    have HLE := hide (left_of (nn := nn) (os := os) (q := q) (unhide HK).1 (unhide HK).2 (Nat.le_refl _))
    clear HCO HK
    go_wp2
    go_ret
    exact unhide HLE
end Go.Proofs.Qxb6627683a
