/-
  IgnoredKeys (6): the keys of the three fields that are given, in their order, in new memory.
-/
import Derived.Test.Qxb6627606aWalksA
namespace Go.Proofs.Qxb6627606a
open Go.RowKit

def keyA : Value := .string ⟨#[115, 112, 101, 99, 46, 122, 107, 65, 100, 100, 114, 115]⟩
def keyP : Value := .string ⟨#[115, 112, 101, 99, 46, 122, 107, 80, 114, 101, 102, 105, 120]⟩
def keyL : Value := .string ⟨#[115, 112, 101, 99, 46, 122, 107, 76, 111, 99, 107, 80, 97, 116, 104]⟩
def oneOf (b : Bool) (v : Value) : List Value := if b then [v] else []
/-- The keys behind k rounds. -/
def keysTo (A P L : Bool) : Nat → List Value
  | 0 => []
  | 1 => oneOf A keyA
  | 2 => oneOf A keyA ++ oneOf P keyP
  | _ => oneOf A keyA ++ oneOf P keyP ++ oneOf L keyL
theorem keysTo_le (A P L : Bool) (k : Nat) : (keysTo A P L k).length ≤ 3 := by
  unfold keysTo oneOf
  split <;> cases A <;> cases P <;> cases L <;> simp

theorem Try.info9 : (Try.prog.info? 9).map (fun i => (i.zero, i.size, i.bytes)) = some (some (.string ⟨#[]⟩), 1, 16) := by kernel_rfl

/-- The table that the call lays. -/
def Six (w : World) (b : Nat) (A P L : Bool) : Prop :=
  w.cell? ⟨b, 0, none⟩ = some (.string ⟨#[115, 112, 101, 99, 46, 122, 107, 65, 100, 100, 114, 115]⟩) ∧ w.cell? ⟨b, 1, none⟩ = some (.bool A) ∧ w.cell? ⟨b, 2, none⟩ = some (.string ⟨#[115, 112, 101, 99, 46, 122, 107, 80, 114, 101, 102, 105, 120]⟩) ∧ w.cell? ⟨b, 3, none⟩ = some (.bool P) ∧
    w.cell? ⟨b, 4, none⟩ = some (.string ⟨#[115, 112, 101, 99, 46, 122, 107, 76, 111, 99, 107, 80, 97, 116, 104]⟩) ∧ w.cell? ⟨b, 5, none⟩ = some (.bool L)
theorem Six.below {w w' : World} {b B : Nat} {A P L : Bool} (h : Six w b A P L) (hb : Below B w w') (hB : b < B) : Six w' b A P L := by
  obtain ⟨h0, h1, h2, h3, h4, h5⟩ := h
  exact ⟨by rw [← h0]; exact hb.cell hB, by rw [← h1]; exact hb.cell hB, by rw [← h2]; exact hb.cell hB, by rw [← h3]; exact hb.cell hB, by rw [← h4]; exact hb.cell hB, by rw [← h5]; exact hb.cell hB⟩
theorem six_new (w : World) (b : Nat) (A P L : Bool) (hb : b = w.heap.size) : Six (w.alloc (.cells #[.string ⟨#[115, 112, 101, 99, 46, 122, 107, 65, 100, 100, 114, 115]⟩, .bool A, .string ⟨#[115, 112, 101, 99, 46, 122, 107, 80, 114, 101, 102, 105, 120]⟩, .bool P, .string ⟨#[115, 112, 101, 99, 46, 122, 107, 76, 111, 99, 107, 80, 97, 116, 104]⟩, .bool L] 49)) b A P L := by
  subst hb
  refine ⟨?_, ?_, ?_, ?_, ?_, ?_⟩ <;> simp

/-- What holds at each round's head. -/
def Rel (w wr : World) (A P L : Bool) (v : Value) (k : Nat) : Prop :=
  wr.ownsRow (w.heap.size + 2) 9 1 v (keysTo A P L k).length (keysTo A P L k) ∧ Six wr (w.heap.size + 1) A P L ∧ Below w.heap.size w wr ∧ w.heap.size + 2 ≤ wr.heap.size

/-- A round that takes the key. -/
theorem rel_take {w wr w1 : World} {A P L : Bool} {v v' : Value} {k : Nat} {news : List Value} (o1 o2 : Obj) (h : Rel w wr A P L v k) (hk : keysTo A P L (k + 1) = keysTo A P L k ++ news)
    (hown : w1.ownsRow (w.heap.size + 2) 9 1 v' ((keysTo A P L k).length + 1) (keysTo A P L k ++ news)) (hn : news.length = 1) (hg : ((wr.alloc o1).alloc o2).grownBy w1 v.ownBlock) : Rel w w1 A P L v' (k + 1) := by
  obtain ⟨h1, h2, h3, h4⟩ := h
  have hlt := h1.lt
  have b2 : Below (w.heap.size + 2) wr ((wr.alloc o1).alloc o2) := (((Below.refl _ _).alloc h4 _).alloc (by simp; omega) _)
  have b3 : Below (w.heap.size + 2) wr w1 := b2.grown hg (by simp; omega) (fun j hj => (hlt j hj).1)
  refine ⟨by rw [hk]; simpa [hn] using hown, h2.below b3 (by omega), h3.trans (b3.mono (by omega)), by have := b3.size; omega⟩
/-- A round that does not. -/
theorem rel_skip {w wr : World} {A P L : Bool} {v : Value} {k : Nat} (o1 : Obj) (h : Rel w wr A P L v k) (hk : keysTo A P L (k + 1) = keysTo A P L k) : Rel w (wr.alloc o1) A P L v (k + 1) := by
  obtain ⟨h1, h2, h3, h4⟩ := h
  have b2 : Below (w.heap.size + 2) wr (wr.alloc o1) := (Below.refl _ _).alloc h4 _
  refine ⟨by rw [hk]; exact h1.alloc _, h2.below b2 (by omega), h3.trans (b2.mono (by omega)), by simp; omega⟩

theorem one_new (w : World) (o1 : Obj) (x : Value) (t : TypeId) : ∀ (j : Nat) (u : Value), [x][j]? = some u → ((w.alloc o1).alloc (.cells #[x] t)).cell? ((⟨w.heap.size + 1, 0, none⟩ : Addr).add j) = some u := by
  intro j u hj
  match j, hj with
  | 0, hj => simp at hj; subst hj; simp [Addr.add]
theorem one_str (s : ByteArray) : ∀ u ∈ [Value.string s], u.oneCell' = true := by
  intro u hu; simp at hu; subst hu; rfl

set_option maxRecDepth 100000 in
set_option maxHeartbeats 800000 in
theorem keys_any (s0 s1 s2 : ByteArray) (i3 : Int) (s4 : ByteArray) (m5 : Option Nat) (a6 : Option Addr) (l6 c6 : Nat) (s7 : ByteArray) (a8 : Option Addr) (l8 c8 : Nat) (s9 s10 : ByteArray) (p11 : Option Addr) (i12 : Int)
    (b13 : Bool) (s14 s15 s16 s17 : ByteArray) (b18 b19 : Bool) (s20 s21 s22 s23 : ByteArray) (w : World) (A P L : Bool) (hA : decide (0 < l8) = A) (hP : s9.toList.isEmpty = !P) (hL : s10.toList.isEmpty = !L) :
    Calls Try.prog 6 #[.agg #[.string s0, .string s1, .string s2, .int .i64 i3, .string s4, .map m5, .slice a6 l6 c6, .string s7, .slice a8 l8 c8, .string s9, .string s10, .pointer p11, .int .i64 i12, .bool b13, .string s14, .string s15, .string s16, .string s17, .bool b18, .bool b19, .string s20, .string s21, .string s22, .string s23]] w fun e w' => ∃ v, e = .returned v ∧ Rel w w' A P L v 3 := by
  obtain ⟨i0, hi, hz0, hz1, hz2⟩ := info_parts Try.info9
  go_enter Try.func6, Try.ntmps6
  go_wp2
  go_loopw [3, 24] (fun v i wr => ∃ k : Nat, k ≤ 3 ∧ i = .int .i64 k ∧ Rel w wr A P L v k) (fun _ i _ => 3 - (intOf i).toNat)
  case atStart =>
    refine ⟨0, by omega, rfl, World.ownsRow_nil _ _ _ _, six_new _ _ _ _ _ (by simp), ((Below.refl _ _).alloc (Nat.le_refl _) _).alloc (by simp) _, by simp⟩
  case round =>
    obtain ⟨k, hk, rfl, hrel⟩ := hrel
    clear hA hP hL
    obtain ⟨hown, hsix, hbel, hsz⟩ := id hrel
    obtain ⟨g0, g1, g2, g3, g4, g5⟩ := id hsix
    clear hsix hbel
    have HR := hide hrel
    clear hrel
    rcases (show k = 0 ∨ k = 1 ∨ k = 2 ∨ k = 3 by omega) with rfl | rfl | rfl | rfl
    · cases A
      · go_wp2
        go_roundw
        case rel => exact ⟨1, by omega, by go_num, rel_skip _ (unhide HR) (by simp [keysTo, oneOf])⟩
        case measure => simp [intOf]
      · have hle := keysTo_le true P L 0
        go_wp2_with (at_builtin; refine wpList_append_own _ rfl _ _ 23 rfl (w.heap.size + 2) 9 i0 (.string ⟨#[]⟩) 1 16 Try.underlying23 hi hz0 hz1 hz2 rfl (by decide) _ _ _ rfl ((hown.alloc _).alloc _) ⟨wr.heap.size + 1, 0, none⟩ 1 1 [.string ⟨#[115, 112, 101, 99, 46, 122, 107, 65, 100, 100, 114, 115]⟩] rfl rfl (one_new _ _ _ _) (one_str _) (by unfold maxLen; omega) (by omega) (by simp; omega) ?_)
        intro v' w1 hown' hgrow _
        have R := rel_take _ _ (unhide HR) (by simp [keysTo, oneOf, keyA]) hown' rfl hgrow
        have HR1 := hide R
        clear R hown' hgrow hown hle
        go_wp2
        go_roundw
        case rel => exact ⟨1, by omega, by go_num, unhide HR1⟩
        case measure => simp [intOf]
    · cases P
      · go_wp2
        go_roundw
        case rel => exact ⟨2, by omega, by go_num, rel_skip _ (unhide HR) (by simp [keysTo, oneOf])⟩
        case measure => simp [intOf]
      · have hle := keysTo_le A true L 1
        go_wp2_with (at_builtin; refine wpList_append_own _ rfl _ _ 23 rfl (w.heap.size + 2) 9 i0 (.string ⟨#[]⟩) 1 16 Try.underlying23 hi hz0 hz1 hz2 rfl (by decide) _ _ _ rfl ((hown.alloc _).alloc _) ⟨wr.heap.size + 1, 0, none⟩ 1 1 [.string ⟨#[115, 112, 101, 99, 46, 122, 107, 80, 114, 101, 102, 105, 120]⟩] rfl rfl (one_new _ _ _ _) (one_str _) (by unfold maxLen; omega) (by omega) (by simp; omega) ?_)
        intro v' w1 hown' hgrow _
        have R := rel_take _ _ (unhide HR) (by simp [keysTo, oneOf, keyP]) hown' rfl hgrow
        have HR1 := hide R
        clear R hown' hgrow hown hle
        go_wp2
        go_roundw
        case rel => exact ⟨2, by omega, by go_num, unhide HR1⟩
        case measure => simp [intOf]
    · cases L
      · go_wp2
        go_roundw
        case rel => exact ⟨3, by omega, by go_num, rel_skip _ (unhide HR) (by simp [keysTo, oneOf])⟩
        case measure => simp [intOf]
      · have hle := keysTo_le A P true 2
        go_wp2_with (at_builtin; refine wpList_append_own _ rfl _ _ 23 rfl (w.heap.size + 2) 9 i0 (.string ⟨#[]⟩) 1 16 Try.underlying23 hi hz0 hz1 hz2 rfl (by decide) _ _ _ rfl ((hown.alloc _).alloc _) ⟨wr.heap.size + 1, 0, none⟩ 1 1 [.string ⟨#[115, 112, 101, 99, 46, 122, 107, 76, 111, 99, 107, 80, 97, 116, 104]⟩] rfl rfl (one_new _ _ _ _) (one_str _) (by unfold maxLen; omega) (by omega) (by simp; omega) ?_)
        intro v' w1 hown' hgrow _
        have R := rel_take _ _ (unhide HR) (by simp [keysTo, oneOf, keyL]) hown' rfl hgrow
        have HR1 := hide R
        clear R hown' hgrow hown hle
        go_wp2
        go_roundw
        case rel => exact ⟨3, by omega, by go_num, unhide HR1⟩
        case measure => simp [intOf]
    · go_wp2
      go_ret
      exact ⟨_, rfl, unhide HR⟩
end Go.Proofs.Qxb6627606a
