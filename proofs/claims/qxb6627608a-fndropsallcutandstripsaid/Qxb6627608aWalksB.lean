/-
  zzCaps (7), zzInsert (9), zzStrip (11): lists in new memory.
-/
import Derived.Test.Qxb6627608aWalksA
import Derived.Lib.SliceRun
namespace Go.Proofs.Qxb6627608a
open Go.RowKit

theorem Try.info33 : (Try.prog.info? 33).map (fun i => (i.zero, i.size, i.bytes)) = some (some (.string ⟨#[]⟩), 1, 16) := by kernel_rfl

/-- The call's own slice v holds the strings xs; below, nothing has turned. -/
def Own (w wr : World) (v : Value) (xs : List ByteArray) : Prop :=
  wr.ownsRow w.heap.size 33 1 v xs.length (xs.map Value.string) ∧ Below w.heap.size w wr
theorem own_push {w wr w1 : World} {v v' : Value} {xs : List ByteArray} {s : ByteArray} (o : Obj) (h : Own w wr v xs)
    (hown : w1.ownsRow w.heap.size 33 1 v' (xs.length + 1) (xs.map Value.string ++ [.string s])) (hg : (wr.alloc o).grownBy w1 v.ownBlock) : Own w w1 v' (xs ++ [s]) := by
  obtain ⟨h1, h2⟩ := h
  refine ⟨by simpa using hown, ?_⟩
  exact (h2.alloc h2.size _).grown hg (by have := h2.size; simp; omega) (fun j hj => (h1.lt j hj).1)

theorem one_new (w : World) (x : Value) (t : TypeId) : ∀ (j : Nat) (u : Value), [x][j]? = some u → (w.alloc (.cells #[x] t)).cell? ((⟨w.heap.size, 0, none⟩ : Addr).add j) = some u := by
  intro j u hj
  match j, hj with
  | 0, hj => simp at hj; subst hj; simp [Addr.add]
theorem one_str (s : ByteArray) : ∀ u ∈ [Value.string s], u.oneCell' = true := by
  intro u hu; simp at hu; subst hu; rfl

/-! ### zzCaps -/
def fill (len : Nat) (ss : List ByteArray) (k : Nat) : List Value := (ss.take k).map Value.string ++ List.replicate (len - k) (.string ⟨#[]⟩)
theorem fill_zero (len : Nat) (ss : List ByteArray) : fill len ss 0 = (madeCells #[.string ⟨#[]⟩] len).toList := by
  rw [toList_madeCells_one]
  simp [fill]
theorem fill_set {len : Nat} {ss : List ByteArray} {k : Nat} (hk : k < len) (hl : len ≤ ss.length) : (fill len ss k).set k (.string (ss.getD k ByteArray.empty)) = fill len ss (k + 1) := by
  have hg : ss[k]? = some ss[k] := List.getElem?_eq_getElem (by omega)
  unfold fill
  rw [take_next hg, show len - k = (len - (k + 1)) + 1 by omega, List.replicate_succ]
  rw [List.set_append_right _ _ (by simp; omega), List.map_append, List.append_assoc]
  simp only [List.length_map, List.length_take, show min k ss.length = k by omega, Nat.sub_self, List.set_cons_zero, List.getD, hg, Option.getD_some]
  rfl
theorem fill_end {len : Nat} {ss : List ByteArray} : fill len ss len = (ss.take len).map Value.string := by simp [fill]

def CapsRel (w wr : World) (len : Nat) (ss : List ByteArray) (k : Nat) : Prop :=
  wr.ownsRow w.heap.size 33 1 (.slice (some ⟨w.heap.size, 0, none⟩) len len) len (fill len ss k) ∧ Below w.heap.size w wr
theorem capsRel_next {w wr : World} {len : Nat} {ss : List ByteArray} {k : Nat} (hk : k < len) (hl : len ≤ ss.length) (h : CapsRel w wr len ss k) :
    CapsRel w (wr.setCell ⟨w.heap.size, k, none⟩ (.string (ss.getD k ByteArray.empty))) len ss (k + 1) := by
  obtain ⟨h1, h2⟩ := h
  refine ⟨?_, h2.setCell (Nat.le_refl _) _⟩
  have := (h1.stored k (.string (ss.getD k ByteArray.empty))).1
  rw [fill_set hk hl] at this
  exact this

set_option maxHeartbeats 400000 in
theorem caps_any (a0 : Option Addr) (len cap : Nat) (ss : List ByteArray) (w : World) (hl : len ≤ 65536) (hn : a0 = none → len = 0) (hls : len ≤ ss.length) (hc : Strs w a0 len ss) :
    Calls Try.prog 7 #[.slice a0 len cap] w fun e w' => ∃ v, e = .returned v ∧ Own w w' v (ss.take len) := by
  have q22 : ∀ (w : World) (a : Option Addr) (n c n' c' : Nat), (binOp .eql 22 (.slice a n c) (.slice none n' c')).run Try.prog w = .ok (.bool a.isNone) w := fun w a n c n' c' => Lib.run_eql_slice_nil w _ _ a n c n' c' Try.underlying22
  obtain ⟨i0, hi, hz0, hz1, hz2⟩ := info_parts Try.info33
  cases a0 with
  | none =>
    obtain rfl := hn rfl
    go_enter Try.func7, Try.ntmps7
    go_wp2
    go_ret
    exact ⟨_, rfl, World.ownsRow_nil _ _ _ _, Below.refl _ _⟩
  | some ad =>
    clear hn
    go_enter Try.func7, Try.ntmps7
    go_wp2_with (at_make; refine wpList_make_full _ rfl _ _ 26 rfl w.heap.size 33 i0 (.string ⟨#[]⟩) 1 Try.underlying26 hi hz0 hz1 _ _ _ _ len rfl rfl rfl rfl (by rw [hz2]; omega) (by unfold maxLen; omega) (Nat.le_refl _) ?_)
    intro w1 hown hgrow
    have HR : Hid (CapsRel w w1 len ss 0) := hide ⟨by rw [fill_zero]; exact hown, (Below.refl _ _).grown hgrow (Nat.le_refl _) (fun _ h => by cases h)⟩
    clear hown hgrow
    go_wp2
    go_loopw [4] (fun i wr => ∃ k : Nat, k ≤ len ∧ i = .int .i64 k ∧ Hid (CapsRel w wr len ss k)) (fun i _ => len - (intOf i).toNat)
    case atStart => exact ⟨0, Nat.zero_le _, rfl, HR⟩
    case round =>
      obtain ⟨k, hk, rfl, HK⟩ := hrel
      by_cases hlt : k < len
      · have hR := unhide HK
        have hg := hR.1.frozenAt k
        have hg2 : wr.cell? ⟨w.heap.size, k, none⟩ = (fill len ss k)[k]? := hR.1.cellAt k (by omega)
        obtain ⟨u, hu⟩ : ∃ u, (fill len ss k)[k]? = some u := ⟨_, List.getElem?_eq_getElem (by simp [fill]; omega)⟩
        rw [hu] at hg2
        obtain ⟨b, off, hab, hcell⟩ := (hc.below hR.2) k hlt
        simp only [Option.some.injEq] at hab
        subst hab
        clear hu hR hc HR
        go_wp2
        go_roundw
        case rel => exact ⟨k + 1, by omega, by go_num, hide (by simpa using capsRel_next hlt hls (unhide HK))⟩
        case measure => simp [intOf]; omega
      · obtain rfl : k = len := by omega
        go_wp2
        go_ret
        have hR := unhide HK
        rw [CapsRel, fill_end] at hR
        exact ⟨_, rfl, by simpa [Own, show min k ss.length = k by omega] using hR⟩
end Go.Proofs.Qxb6627608a
