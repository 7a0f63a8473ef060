/-
  The law itself (3).
-/
import Derived.Test.Qxb6627606aWalksB
import Derived.Test.Qxb6627606aWalksC
import Derived.Test.Qxb6627606aWalksD
import Derived.BigQuiet
import Derived.Deep.QuietTactic
namespace Go.Proofs.Qxb6627606a
open Go.RowKit

/-- A box of the call's own: its cells. -/
def Box (w : World) (b : Nat) (cs : Array Value) : Prop := w.heap[b]? = some (.cells cs 30 (0, 0))
theorem Box.below {w w' : World} {b : Nat} {cs : Array Value} (h : Box w b cs) (hb : Below w.heap.size w w') : Box w' b cs := by
  unfold Box at *
  rw [hb.block b (Array.getElem?_eq_some_iff.1 h).1]; exact h
theorem Box.cell {w : World} {b : Nat} {cs : Array Value} (h : Box w b cs) (j : Nat) : w.cell? ⟨b, j, none⟩ = cs[j]? := by
  unfold Box at h
  simp [World.cell?, h]
theorem box_new (w : World) (cs : Array Value) : Box (w.alloc (.cells cs 30)) w.heap.size cs := heap_alloc_new' _ _ rfl

/-- The slice's elements can be read in w. -/
def Reads (w : World) (v : Value) (xs : List Value) : Prop := ∃ base, w.ownsRow base 9 1 v xs.length xs
theorem Reads.below {w w' : World} {v : Value} {xs : List Value} (h : Reads w v xs) (hb : Below w.heap.size w w') : Reads w' v xs := by
  obtain ⟨base, h1, h2⟩ := h
  refine ⟨base, h1, ?_⟩
  rcases h2 with h2 | ⟨g, cap, cur, hv, hg, hh, r⟩
  · exact Or.inl h2
  · exact Or.inr ⟨g, cap, cur, hv, hg, by rw [hb.block g (Array.getElem?_eq_some_iff.1 hh).1]; exact hh, r⟩
theorem Rel.reads {w w' : World} {A P L : Bool} {v : Value} {k : Nat} (h : Rel w w' A P L v k) : Reads w' v (keysTo A P L k) := ⟨_, h.1⟩
theorem Rel.bel {w w' : World} {A P L : Bool} {v : Value} {k : Nat} (h : Rel w w' A P L v k) : Below w.heap.size w w' := h.2.2.1
theorem Reads.form {w : World} {v : Value} {xs : List Value} {n : Nat} (h : Reads w v xs) (hn : xs.length = n) : ∃ ao cap, v = .slice ao n cap ∧ ∀ j x, xs[j]? = some x → ∃ g, ao = some ⟨g, 0, none⟩ ∧ w.cell? ⟨g, j, none⟩ = some x := by
  subst hn
  obtain ⟨base, h1, h2⟩ := h
  rcases h2 with ⟨rfl, h2⟩ | ⟨g, cap, cur, rfl, hg, hh, h3, h4, h5, h6⟩
  · refine ⟨none, 0, by rw [h2], fun j x hx => ?_⟩
    have := (List.getElem?_eq_some_iff.1 hx).1
    omega
  · refine ⟨some ⟨g, 0, none⟩, cap, rfl, fun j x hx => ⟨g, rfl, ?_⟩⟩
    have hj := (List.getElem?_eq_some_iff.1 hx).1
    have : cur.toList[j]? = some x := by
      rw [← hx, ← h6, List.getElem?_take_of_lt (by omega)]
    simp [World.cell?, hh]
    simpa using this

theorem emp : (⟨#[]⟩ : ByteArray).toList.isEmpty = !false := by kernel_rfl

set_option maxRecDepth 100000 in
set_option maxHeartbeats 4000000 in
theorem law_any (s0 s1 s2 : ByteArray) (i3 : Int) (s4 : ByteArray) (m5 : Option Nat) (n5 : Nat) (a6 : Option Addr) (l6 c6 : Nat) (ss6 : List ByteArray) (s7 : ByteArray) (a8 : Option Addr) (l8 c8 : Nat) (ss8 : List ByteArray) (s9 s10 : ByteArray) (p11 : Option Addr) (i12 : Int)
    (b13 : Bool) (s14 s15 s16 s17 : ByteArray) (b18 b19 : Bool) (s20 s21 s22 s23 : ByteArray) (w : World) (hl6 : l6 ≤ maxLen) (hl8 : l8 ≤ maxLen)
    (hm5 : ∀ o1 o2, Sem.run Try.prog (Builtin.len_ #[22] 3 #[.map m5]) ((w.alloc o1).alloc o2) = .ok (.int .i64 n5) ((w.alloc o1).alloc o2))
    (hc6 : Strs w a6 l6 ss6) (hc8 : Strs w a8 l8 ss8)
    (A P L : Bool) (hA : decide (0 < l8) = A) (hP : s9.toList.isEmpty = !P) (hL : s10.toList.isEmpty = !L) :
    Calls Try.prog 3 #[.agg #[.string s0, .string s1, .string s2, .int .i64 i3, .string s4, .map m5, .slice a6 l6 c6, .string s7, .slice a8 l8 c8, .string s9, .string s10, .pointer p11, .int .i64 i12, .bool b13, .string s14, .string s15, .string s16, .string s17, .bool b18, .bool b19, .string s20, .string s21, .string s22, .string s23]] w fun e w' => e = .returned (.bool true) ∧ Below w.heap.size w w' := by
  have HA := hide hA
  have HP := hide hP
  have HL := hide hL
  clear hA hP hL
  have Hm := hide hm5
  clear hm5
  go_enter Try.func3, Try.ntmps3
  go_wp2_with (refine wpList_load_row rfl 30 _ rfl w.heap.size rfl 30 _ (0, 0) _ (heap_alloc_new' _ _ rfl) Try.underlying30 rfl (by kernel_rfl) ?_)
  refine (tooBig_any s0 s1 s2 i3 s4 (.map m5) n5 a6 l6 c6 ss6 s7 a8 l8 c8 ss8 s9 s10 (.pointer p11) i12 b13 s14 s15 s16 s17 b18 b19 s20 s21 s22 s23 _ hl6 hl8 (unhide Hm _) (hc6.alloc _) (hc8.alloc _)).mono ?_
  rintro e w1 ⟨⟨b, rfl⟩, hb1⟩
  clear hl6 hl8 Hm hc6 hc8
  have B1 : Box w1 w.heap.size #[.string s0, .string s1, .string s2, .int .i64 i3, .string s4, .map m5, .slice a6 l6 c6, .string s7, .slice a8 l8 c8, .string s9, .string s10, .pointer p11, .int .i64 i12, .bool b13, .string s14, .string s15, .string s16, .string s17, .bool b18, .bool b19, .string s20, .string s21, .string s22, .string s23] := (box_new _ _).below hb1
  have U1 : Below w.heap.size w w1 := ((Below.refl _ _).alloc (Nat.le_refl _) _).trans (hb1.mono (by simp))
  clear hb1
  cases b
  case true =>
    go_wp2
    go_ret
    exact ⟨rfl, U1⟩
  go_wp2_with (refine wpList_load_row rfl 30 _ rfl w.heap.size rfl 30 _ (0, 0) _ B1 Try.underlying30 rfl (by kernel_rfl) ?_)
  refine (build_any s0 s1 s2 i3 s4 m5 a6 l6 c6 s7 a8 l8 c8 s9 s10 p11 i12 b13 s14 s15 s16 s17 b18 b19 s20 s21 s22 s23 _).mono ?_
  rintro e w2 ⟨rfl, hb2⟩
  have B2 := B1.below hb2
  have U2 := U1.trans (hb2.mono U1.size)
  clear hb2 B1 U1
  go_wp2_with fail
  refine (keys_any s0 s1 s2 i3 s4 m5 a6 l6 c6 s7 a8 l8 c8 s9 s10 p11 i12 b13 s14 s15 s16 s17 b18 b19 s20 s21 s22 s23 _ A P L (unhide HA) (unhide HP) (unhide HL)).mono ?_
  rintro e w3 ⟨v3, rfl, R3⟩
  have B3 := B2.below R3.bel
  have U3 := U2.trans (R3.bel.mono U2.size)
  have W3 := R3.reads
  clear R3 B2 U2
  have k8 : w3.cell? ⟨w.heap.size, 8, none⟩ = some (.slice a8 l8 c8) := B3.cell 8
  go_wp2_with fail
  refine (keys_any ⟨#[]⟩ ⟨#[]⟩ ⟨#[]⟩ 0 ⟨#[]⟩ none none 0 0 ⟨#[]⟩ a8 l8 c8 ⟨#[]⟩ ⟨#[]⟩ none 0 false ⟨#[]⟩ ⟨#[]⟩ ⟨#[]⟩ ⟨#[]⟩ false false ⟨#[]⟩ ⟨#[]⟩ ⟨#[]⟩ ⟨#[]⟩ _ A false false (unhide HA) emp emp).mono ?_
  rintro e w4 ⟨v4, rfl, R4⟩
  have B4 := B3.below R4.bel
  have U4 := U3.trans (R4.bel.mono U3.size)
  have W34 := W3.below R4.bel
  have W4 := R4.reads
  clear R4 B3 U3 W3 k8
  have k9 : w4.cell? ⟨w.heap.size, 9, none⟩ = some (.string s9) := B4.cell 9
  go_wp2_with fail
  refine (keys_any ⟨#[]⟩ ⟨#[]⟩ ⟨#[]⟩ 0 ⟨#[]⟩ none none 0 0 ⟨#[]⟩ none 0 0 s9 ⟨#[]⟩ none 0 false ⟨#[]⟩ ⟨#[]⟩ ⟨#[]⟩ ⟨#[]⟩ false false ⟨#[]⟩ ⟨#[]⟩ ⟨#[]⟩ ⟨#[]⟩ _ false P false rfl (unhide HP) emp).mono ?_
  rintro e w5 ⟨v5, rfl, R5⟩
  have B5 := B4.below R5.bel
  have U5 := U4.trans (R5.bel.mono U4.size)
  have W35 := W34.below R5.bel
  have W45 := W4.below R5.bel
  have W5 := R5.reads
  clear R5 B4 U4 W34 W4 k9
  have k10 : w5.cell? ⟨w.heap.size, 10, none⟩ = some (.string s10) := B5.cell 10
  go_wp2_with fail
  refine (keys_any ⟨#[]⟩ ⟨#[]⟩ ⟨#[]⟩ 0 ⟨#[]⟩ none none 0 0 ⟨#[]⟩ none 0 0 ⟨#[]⟩ s10 none 0 false ⟨#[]⟩ ⟨#[]⟩ ⟨#[]⟩ ⟨#[]⟩ false false ⟨#[]⟩ ⟨#[]⟩ ⟨#[]⟩ ⟨#[]⟩ _ false false L rfl emp (unhide HL)).mono ?_
  rintro e w6 ⟨v6, rfl, R6⟩
  have B6 := B5.below R6.bel
  have U6 := U5.trans (R6.bel.mono U5.size)
  have W36 := W35.below R6.bel
  have W46 := W45.below R6.bel
  have W56 := W5.below R6.bel
  have W6 := R6.reads
  clear R6 B5 U5 W35 W45 W5 k10
  have k8 : w6.cell? ⟨w.heap.size, 8, none⟩ = some (.slice a8 l8 c8) := B6.cell 8
  have k9 : w6.cell? ⟨w.heap.size, 9, none⟩ = some (.string s9) := B6.cell 9
  have k10 : w6.cell? ⟨w.heap.size, 10, none⟩ = some (.string s10) := B6.cell 10
  clear B6
  cases A <;> cases P <;> cases L
  case false.false.false =>
    have hA : decide (0 < l8) = false := unhide HA
    have hP : s9.toList.isEmpty = true := unhide HP
    have hL : s10.toList.isEmpty = true := unhide HL
    clear HA HP HL
    obtain ⟨ao3, cap3, rfl, F3⟩ := W36.form (n := 0) rfl
    clear F3 W36
    obtain ⟨ao4, cap4, rfl, F4⟩ := W46.form (n := 0) rfl
    clear F4 W46
    obtain ⟨ao5, cap5, rfl, F5⟩ := W56.form (n := 0) rfl
    clear F5 W56
    obtain ⟨ao6, cap6, rfl, F6⟩ := W6.form (n := 0) rfl
    clear F6 W6
    go_wp2
    go_loopw [7] (fun i wr => ∃ k : Nat, k ≤ 0 ∧ i = .int .i64 k ∧ ∃ nq, wr = w6.drewN nq) (fun i _ => 0 - (intOf i).toNat)
    case atStart => exact ⟨0, by omega, rfl, ⟨0, rfl⟩⟩
    obtain ⟨k, hk, rfl, m0, rfl⟩ := hrel
    obtain rfl : k = 0 := by omega
    go_wp2
    go_loopw [8] (fun i wr => ∃ k : Nat, k ≤ 0 ∧ i = .int .i64 k ∧ ∃ nq, wr = w6.drewN nq) (fun i _ => 0 - (intOf i).toNat)
    case atStart => exact ⟨0, by omega, rfl, ⟨_, rfl⟩⟩
    obtain ⟨k, hk, rfl, m1, rfl⟩ := hrel
    obtain rfl : k = 0 := by omega
    go_wp2
    go_loopw [9] (fun i wr => ∃ k : Nat, k ≤ 0 ∧ i = .int .i64 k ∧ ∃ nq, wr = w6.drewN nq) (fun i _ => 0 - (intOf i).toNat)
    case atStart => exact ⟨0, by omega, rfl, ⟨_, rfl⟩⟩
    obtain ⟨k, hk, rfl, m2, rfl⟩ := hrel
    obtain rfl : k = 0 := by omega
    go_wp2
    go_quiet (fail)
    go_wp2
    go_quiet (fail)
    go_wp2
    go_quiet (fail)
    go_wp2
    go_ret
    exact ⟨rfl, by repeat (first | exact U6 | refine below_drewN ?_ _)⟩
  case false.false.true =>
    have hA : decide (0 < l8) = false := unhide HA
    have hP : s9.toList.isEmpty = true := unhide HP
    have hL : s10.toList.isEmpty = false := unhide HL
    clear HA HP HL
    obtain ⟨ao3, cap3, rfl, F3⟩ := W36.form (n := 1) rfl
    obtain ⟨g3, rfl, d30⟩ := F3 0 (.string ⟨#[115, 112, 101, 99, 46, 122, 107, 76, 111, 99, 107, 80, 97, 116, 104]⟩) rfl
    clear F3 W36
    obtain ⟨ao4, cap4, rfl, F4⟩ := W46.form (n := 0) rfl
    clear F4 W46
    obtain ⟨ao5, cap5, rfl, F5⟩ := W56.form (n := 0) rfl
    clear F5 W56
    obtain ⟨ao6, cap6, rfl, F6⟩ := W6.form (n := 1) rfl
    obtain ⟨g6, rfl, d60⟩ := F6 0 (.string ⟨#[115, 112, 101, 99, 46, 122, 107, 76, 111, 99, 107, 80, 97, 116, 104]⟩) rfl
    clear F6 W6
    go_wp2
    go_loopw [7] (fun i wr => ∃ k : Nat, k ≤ 0 ∧ i = .int .i64 k ∧ ∃ nq, wr = w6.drewN nq) (fun i _ => 0 - (intOf i).toNat)
    case atStart => exact ⟨0, by omega, rfl, ⟨0, rfl⟩⟩
    obtain ⟨k, hk, rfl, m0, rfl⟩ := hrel
    obtain rfl : k = 0 := by omega
    go_wp2
    go_loopw [8] (fun i wr => ∃ k : Nat, k ≤ 0 ∧ i = .int .i64 k ∧ ∃ nq, wr = w6.drewN nq) (fun i _ => 0 - (intOf i).toNat)
    case atStart => exact ⟨0, by omega, rfl, ⟨_, rfl⟩⟩
    obtain ⟨k, hk, rfl, m1, rfl⟩ := hrel
    obtain rfl : k = 0 := by omega
    go_wp2
    go_loopw [9] (fun i wr => ∃ k : Nat, k ≤ 1 ∧ i = .int .i64 k ∧ ∃ nq, wr = w6.drewN nq) (fun i _ => 1 - (intOf i).toNat)
    case atStart => exact ⟨0, by omega, rfl, ⟨_, rfl⟩⟩
    obtain ⟨k, hk, rfl, m2, rfl⟩ := hrel
    rcases (show k = 0 ∨ k = 1 by omega) with rfl | rfl
    · go_wp2
      go_quiet (fail)
      go_wp2
      go_roundw
      case rel => exact ⟨1, by omega, by go_num, ⟨_, rfl⟩⟩
      case measure => simp [intOf]
    go_wp2
    go_quiet (fail)
    go_wp2
    go_quiet (fail)
    go_wp2
    go_quiet (fail)
    go_wp2
    go_ret
    exact ⟨rfl, by repeat (first | exact U6 | refine below_drewN ?_ _)⟩
  case false.true.false =>
    have hA : decide (0 < l8) = false := unhide HA
    have hP : s9.toList.isEmpty = false := unhide HP
    have hL : s10.toList.isEmpty = true := unhide HL
    clear HA HP HL
    obtain ⟨ao3, cap3, rfl, F3⟩ := W36.form (n := 1) rfl
    obtain ⟨g3, rfl, d30⟩ := F3 0 (.string ⟨#[115, 112, 101, 99, 46, 122, 107, 80, 114, 101, 102, 105, 120]⟩) rfl
    clear F3 W36
    obtain ⟨ao4, cap4, rfl, F4⟩ := W46.form (n := 0) rfl
    clear F4 W46
    obtain ⟨ao5, cap5, rfl, F5⟩ := W56.form (n := 1) rfl
    obtain ⟨g5, rfl, d50⟩ := F5 0 (.string ⟨#[115, 112, 101, 99, 46, 122, 107, 80, 114, 101, 102, 105, 120]⟩) rfl
    clear F5 W56
    obtain ⟨ao6, cap6, rfl, F6⟩ := W6.form (n := 0) rfl
    clear F6 W6
    go_wp2
    go_loopw [7] (fun i wr => ∃ k : Nat, k ≤ 0 ∧ i = .int .i64 k ∧ ∃ nq, wr = w6.drewN nq) (fun i _ => 0 - (intOf i).toNat)
    case atStart => exact ⟨0, by omega, rfl, ⟨0, rfl⟩⟩
    obtain ⟨k, hk, rfl, m0, rfl⟩ := hrel
    obtain rfl : k = 0 := by omega
    go_wp2
    go_loopw [8] (fun i wr => ∃ k : Nat, k ≤ 1 ∧ i = .int .i64 k ∧ ∃ nq, wr = w6.drewN nq) (fun i _ => 1 - (intOf i).toNat)
    case atStart => exact ⟨0, by omega, rfl, ⟨_, rfl⟩⟩
    obtain ⟨k, hk, rfl, m1, rfl⟩ := hrel
    rcases (show k = 0 ∨ k = 1 by omega) with rfl | rfl
    · go_wp2
      go_quiet (fail)
      go_wp2
      go_roundw
      case rel => exact ⟨1, by omega, by go_num, ⟨_, rfl⟩⟩
      case measure => simp [intOf]
    go_wp2
    go_loopw [9] (fun i wr => ∃ k : Nat, k ≤ 0 ∧ i = .int .i64 k ∧ ∃ nq, wr = w6.drewN nq) (fun i _ => 0 - (intOf i).toNat)
    case atStart => exact ⟨0, by omega, rfl, ⟨_, rfl⟩⟩
    obtain ⟨k, hk, rfl, m2, rfl⟩ := hrel
    obtain rfl : k = 0 := by omega
    go_wp2
    go_quiet (fail)
    go_wp2
    go_quiet (fail)
    go_wp2
    go_quiet (fail)
    go_wp2
    go_ret
    exact ⟨rfl, by repeat (first | exact U6 | refine below_drewN ?_ _)⟩
  case false.true.true =>
    have hA : decide (0 < l8) = false := unhide HA
    have hP : s9.toList.isEmpty = false := unhide HP
    have hL : s10.toList.isEmpty = false := unhide HL
    clear HA HP HL
    obtain ⟨ao3, cap3, rfl, F3⟩ := W36.form (n := 2) rfl
    obtain ⟨g3, rfl, d30⟩ := F3 0 (.string ⟨#[115, 112, 101, 99, 46, 122, 107, 80, 114, 101, 102, 105, 120]⟩) rfl
    obtain ⟨_, e3, d31⟩ := F3 1 (.string ⟨#[115, 112, 101, 99, 46, 122, 107, 76, 111, 99, 107, 80, 97, 116, 104]⟩) rfl
    simp only [Option.some.injEq, Addr.mk.injEq, and_true] at e3
    subst e3
    clear F3 W36
    obtain ⟨ao4, cap4, rfl, F4⟩ := W46.form (n := 0) rfl
    clear F4 W46
    obtain ⟨ao5, cap5, rfl, F5⟩ := W56.form (n := 1) rfl
    obtain ⟨g5, rfl, d50⟩ := F5 0 (.string ⟨#[115, 112, 101, 99, 46, 122, 107, 80, 114, 101, 102, 105, 120]⟩) rfl
    clear F5 W56
    obtain ⟨ao6, cap6, rfl, F6⟩ := W6.form (n := 1) rfl
    obtain ⟨g6, rfl, d60⟩ := F6 0 (.string ⟨#[115, 112, 101, 99, 46, 122, 107, 76, 111, 99, 107, 80, 97, 116, 104]⟩) rfl
    clear F6 W6
    go_wp2
    go_loopw [7] (fun i wr => ∃ k : Nat, k ≤ 0 ∧ i = .int .i64 k ∧ ∃ nq, wr = w6.drewN nq) (fun i _ => 0 - (intOf i).toNat)
    case atStart => exact ⟨0, by omega, rfl, ⟨0, rfl⟩⟩
    obtain ⟨k, hk, rfl, m0, rfl⟩ := hrel
    obtain rfl : k = 0 := by omega
    go_wp2
    go_loopw [8] (fun i wr => ∃ k : Nat, k ≤ 1 ∧ i = .int .i64 k ∧ ∃ nq, wr = w6.drewN nq) (fun i _ => 1 - (intOf i).toNat)
    case atStart => exact ⟨0, by omega, rfl, ⟨_, rfl⟩⟩
    obtain ⟨k, hk, rfl, m1, rfl⟩ := hrel
    rcases (show k = 0 ∨ k = 1 by omega) with rfl | rfl
    · go_wp2
      go_quiet (fail)
      go_wp2
      go_roundw
      case rel => exact ⟨1, by omega, by go_num, ⟨_, rfl⟩⟩
      case measure => simp [intOf]
    go_wp2
    go_loopw [9] (fun i wr => ∃ k : Nat, k ≤ 1 ∧ i = .int .i64 k ∧ ∃ nq, wr = w6.drewN nq) (fun i _ => 1 - (intOf i).toNat)
    case atStart => exact ⟨0, by omega, rfl, ⟨_, rfl⟩⟩
    obtain ⟨k, hk, rfl, m2, rfl⟩ := hrel
    rcases (show k = 0 ∨ k = 1 by omega) with rfl | rfl
    · go_wp2
      go_quiet (fail)
      go_wp2
      go_roundw
      case rel => exact ⟨1, by omega, by go_num, ⟨_, rfl⟩⟩
      case measure => simp [intOf]
    go_wp2
    go_quiet (fail)
    go_wp2
    go_quiet (fail)
    go_wp2
    go_quiet (fail)
    go_wp2
    go_ret
    exact ⟨rfl, by repeat (first | exact U6 | refine below_drewN ?_ _)⟩
  case true.false.false =>
    have hA : decide (0 < l8) = true := unhide HA
    have hP : s9.toList.isEmpty = true := unhide HP
    have hL : s10.toList.isEmpty = true := unhide HL
    clear HA HP HL
    obtain ⟨ao3, cap3, rfl, F3⟩ := W36.form (n := 1) rfl
    obtain ⟨g3, rfl, d30⟩ := F3 0 (.string ⟨#[115, 112, 101, 99, 46, 122, 107, 65, 100, 100, 114, 115]⟩) rfl
    clear F3 W36
    obtain ⟨ao4, cap4, rfl, F4⟩ := W46.form (n := 1) rfl
    obtain ⟨g4, rfl, d40⟩ := F4 0 (.string ⟨#[115, 112, 101, 99, 46, 122, 107, 65, 100, 100, 114, 115]⟩) rfl
    clear F4 W46
    obtain ⟨ao5, cap5, rfl, F5⟩ := W56.form (n := 0) rfl
    clear F5 W56
    obtain ⟨ao6, cap6, rfl, F6⟩ := W6.form (n := 0) rfl
    clear F6 W6
    go_wp2
    go_loopw [7] (fun i wr => ∃ k : Nat, k ≤ 1 ∧ i = .int .i64 k ∧ ∃ nq, wr = w6.drewN nq) (fun i _ => 1 - (intOf i).toNat)
    case atStart => exact ⟨0, by omega, rfl, ⟨0, rfl⟩⟩
    obtain ⟨k, hk, rfl, m0, rfl⟩ := hrel
    rcases (show k = 0 ∨ k = 1 by omega) with rfl | rfl
    · go_wp2
      go_quiet (fail)
      go_wp2
      go_roundw
      case rel => exact ⟨1, by omega, by go_num, ⟨_, rfl⟩⟩
      case measure => simp [intOf]
    go_wp2
    go_loopw [8] (fun i wr => ∃ k : Nat, k ≤ 0 ∧ i = .int .i64 k ∧ ∃ nq, wr = w6.drewN nq) (fun i _ => 0 - (intOf i).toNat)
    case atStart => exact ⟨0, by omega, rfl, ⟨_, rfl⟩⟩
    obtain ⟨k, hk, rfl, m1, rfl⟩ := hrel
    obtain rfl : k = 0 := by omega
    go_wp2
    go_loopw [9] (fun i wr => ∃ k : Nat, k ≤ 0 ∧ i = .int .i64 k ∧ ∃ nq, wr = w6.drewN nq) (fun i _ => 0 - (intOf i).toNat)
    case atStart => exact ⟨0, by omega, rfl, ⟨_, rfl⟩⟩
    obtain ⟨k, hk, rfl, m2, rfl⟩ := hrel
    obtain rfl : k = 0 := by omega
    go_wp2
    go_quiet (fail)
    go_wp2
    go_quiet (fail)
    go_wp2
    go_quiet (fail)
    go_wp2
    go_ret
    exact ⟨rfl, by repeat (first | exact U6 | refine below_drewN ?_ _)⟩
  case true.false.true =>
    have hA : decide (0 < l8) = true := unhide HA
    have hP : s9.toList.isEmpty = true := unhide HP
    have hL : s10.toList.isEmpty = false := unhide HL
    clear HA HP HL
    obtain ⟨ao3, cap3, rfl, F3⟩ := W36.form (n := 2) rfl
    obtain ⟨g3, rfl, d30⟩ := F3 0 (.string ⟨#[115, 112, 101, 99, 46, 122, 107, 65, 100, 100, 114, 115]⟩) rfl
    obtain ⟨_, e3, d31⟩ := F3 1 (.string ⟨#[115, 112, 101, 99, 46, 122, 107, 76, 111, 99, 107, 80, 97, 116, 104]⟩) rfl
    simp only [Option.some.injEq, Addr.mk.injEq, and_true] at e3
    subst e3
    clear F3 W36
    obtain ⟨ao4, cap4, rfl, F4⟩ := W46.form (n := 1) rfl
    obtain ⟨g4, rfl, d40⟩ := F4 0 (.string ⟨#[115, 112, 101, 99, 46, 122, 107, 65, 100, 100, 114, 115]⟩) rfl
    clear F4 W46
    obtain ⟨ao5, cap5, rfl, F5⟩ := W56.form (n := 0) rfl
    clear F5 W56
    obtain ⟨ao6, cap6, rfl, F6⟩ := W6.form (n := 1) rfl
    obtain ⟨g6, rfl, d60⟩ := F6 0 (.string ⟨#[115, 112, 101, 99, 46, 122, 107, 76, 111, 99, 107, 80, 97, 116, 104]⟩) rfl
    clear F6 W6
    go_wp2
    go_loopw [7] (fun i wr => ∃ k : Nat, k ≤ 1 ∧ i = .int .i64 k ∧ ∃ nq, wr = w6.drewN nq) (fun i _ => 1 - (intOf i).toNat)
    case atStart => exact ⟨0, by omega, rfl, ⟨0, rfl⟩⟩
    obtain ⟨k, hk, rfl, m0, rfl⟩ := hrel
    rcases (show k = 0 ∨ k = 1 by omega) with rfl | rfl
    · go_wp2
      go_quiet (fail)
      go_wp2
      go_roundw
      case rel => exact ⟨1, by omega, by go_num, ⟨_, rfl⟩⟩
      case measure => simp [intOf]
    go_wp2
    go_loopw [8] (fun i wr => ∃ k : Nat, k ≤ 0 ∧ i = .int .i64 k ∧ ∃ nq, wr = w6.drewN nq) (fun i _ => 0 - (intOf i).toNat)
    case atStart => exact ⟨0, by omega, rfl, ⟨_, rfl⟩⟩
    obtain ⟨k, hk, rfl, m1, rfl⟩ := hrel
    obtain rfl : k = 0 := by omega
    go_wp2
    go_loopw [9] (fun i wr => ∃ k : Nat, k ≤ 1 ∧ i = .int .i64 k ∧ ∃ nq, wr = w6.drewN nq) (fun i _ => 1 - (intOf i).toNat)
    case atStart => exact ⟨0, by omega, rfl, ⟨_, rfl⟩⟩
    obtain ⟨k, hk, rfl, m2, rfl⟩ := hrel
    rcases (show k = 0 ∨ k = 1 by omega) with rfl | rfl
    · go_wp2
      go_quiet (fail)
      go_wp2
      go_roundw
      case rel => exact ⟨1, by omega, by go_num, ⟨_, rfl⟩⟩
      case measure => simp [intOf]
    go_wp2
    go_quiet (fail)
    go_wp2
    go_quiet (fail)
    go_wp2
    go_quiet (fail)
    go_wp2
    go_ret
    exact ⟨rfl, by repeat (first | exact U6 | refine below_drewN ?_ _)⟩
  case true.true.false =>
    have hA : decide (0 < l8) = true := unhide HA
    have hP : s9.toList.isEmpty = false := unhide HP
    have hL : s10.toList.isEmpty = true := unhide HL
    clear HA HP HL
    obtain ⟨ao3, cap3, rfl, F3⟩ := W36.form (n := 2) rfl
    obtain ⟨g3, rfl, d30⟩ := F3 0 (.string ⟨#[115, 112, 101, 99, 46, 122, 107, 65, 100, 100, 114, 115]⟩) rfl
    obtain ⟨_, e3, d31⟩ := F3 1 (.string ⟨#[115, 112, 101, 99, 46, 122, 107, 80, 114, 101, 102, 105, 120]⟩) rfl
    simp only [Option.some.injEq, Addr.mk.injEq, and_true] at e3
    subst e3
    clear F3 W36
    obtain ⟨ao4, cap4, rfl, F4⟩ := W46.form (n := 1) rfl
    obtain ⟨g4, rfl, d40⟩ := F4 0 (.string ⟨#[115, 112, 101, 99, 46, 122, 107, 65, 100, 100, 114, 115]⟩) rfl
    clear F4 W46
    obtain ⟨ao5, cap5, rfl, F5⟩ := W56.form (n := 1) rfl
    obtain ⟨g5, rfl, d50⟩ := F5 0 (.string ⟨#[115, 112, 101, 99, 46, 122, 107, 80, 114, 101, 102, 105, 120]⟩) rfl
    clear F5 W56
    obtain ⟨ao6, cap6, rfl, F6⟩ := W6.form (n := 0) rfl
    clear F6 W6
    go_wp2
    go_loopw [7] (fun i wr => ∃ k : Nat, k ≤ 1 ∧ i = .int .i64 k ∧ ∃ nq, wr = w6.drewN nq) (fun i _ => 1 - (intOf i).toNat)
    case atStart => exact ⟨0, by omega, rfl, ⟨0, rfl⟩⟩
    obtain ⟨k, hk, rfl, m0, rfl⟩ := hrel
    rcases (show k = 0 ∨ k = 1 by omega) with rfl | rfl
    · go_wp2
      go_quiet (fail)
      go_wp2
      go_roundw
      case rel => exact ⟨1, by omega, by go_num, ⟨_, rfl⟩⟩
      case measure => simp [intOf]
    go_wp2
    go_loopw [8] (fun i wr => ∃ k : Nat, k ≤ 1 ∧ i = .int .i64 k ∧ ∃ nq, wr = w6.drewN nq) (fun i _ => 1 - (intOf i).toNat)
    case atStart => exact ⟨0, by omega, rfl, ⟨_, rfl⟩⟩
    obtain ⟨k, hk, rfl, m1, rfl⟩ := hrel
    rcases (show k = 0 ∨ k = 1 by omega) with rfl | rfl
    · go_wp2
      go_quiet (fail)
      go_wp2
      go_roundw
      case rel => exact ⟨1, by omega, by go_num, ⟨_, rfl⟩⟩
      case measure => simp [intOf]
    go_wp2
    go_loopw [9] (fun i wr => ∃ k : Nat, k ≤ 0 ∧ i = .int .i64 k ∧ ∃ nq, wr = w6.drewN nq) (fun i _ => 0 - (intOf i).toNat)
    case atStart => exact ⟨0, by omega, rfl, ⟨_, rfl⟩⟩
    obtain ⟨k, hk, rfl, m2, rfl⟩ := hrel
    obtain rfl : k = 0 := by omega
    go_wp2
    go_quiet (fail)
    go_wp2
    go_quiet (fail)
    go_wp2
    go_quiet (fail)
    go_wp2
    go_ret
    exact ⟨rfl, by repeat (first | exact U6 | refine below_drewN ?_ _)⟩
  case true.true.true =>
    have hA : decide (0 < l8) = true := unhide HA
    have hP : s9.toList.isEmpty = false := unhide HP
    have hL : s10.toList.isEmpty = false := unhide HL
    clear HA HP HL
    obtain ⟨ao3, cap3, rfl, F3⟩ := W36.form (n := 3) rfl
    obtain ⟨g3, rfl, d30⟩ := F3 0 (.string ⟨#[115, 112, 101, 99, 46, 122, 107, 65, 100, 100, 114, 115]⟩) rfl
    obtain ⟨_, e3, d31⟩ := F3 1 (.string ⟨#[115, 112, 101, 99, 46, 122, 107, 80, 114, 101, 102, 105, 120]⟩) rfl
    simp only [Option.some.injEq, Addr.mk.injEq, and_true] at e3
    subst e3
    obtain ⟨_, e3, d32⟩ := F3 2 (.string ⟨#[115, 112, 101, 99, 46, 122, 107, 76, 111, 99, 107, 80, 97, 116, 104]⟩) rfl
    simp only [Option.some.injEq, Addr.mk.injEq, and_true] at e3
    subst e3
    clear F3 W36
    obtain ⟨ao4, cap4, rfl, F4⟩ := W46.form (n := 1) rfl
    obtain ⟨g4, rfl, d40⟩ := F4 0 (.string ⟨#[115, 112, 101, 99, 46, 122, 107, 65, 100, 100, 114, 115]⟩) rfl
    clear F4 W46
    obtain ⟨ao5, cap5, rfl, F5⟩ := W56.form (n := 1) rfl
    obtain ⟨g5, rfl, d50⟩ := F5 0 (.string ⟨#[115, 112, 101, 99, 46, 122, 107, 80, 114, 101, 102, 105, 120]⟩) rfl
    clear F5 W56
    obtain ⟨ao6, cap6, rfl, F6⟩ := W6.form (n := 1) rfl
    obtain ⟨g6, rfl, d60⟩ := F6 0 (.string ⟨#[115, 112, 101, 99, 46, 122, 107, 76, 111, 99, 107, 80, 97, 116, 104]⟩) rfl
    clear F6 W6
    go_wp2
    go_loopw [7] (fun i wr => ∃ k : Nat, k ≤ 1 ∧ i = .int .i64 k ∧ ∃ nq, wr = w6.drewN nq) (fun i _ => 1 - (intOf i).toNat)
    case atStart => exact ⟨0, by omega, rfl, ⟨0, rfl⟩⟩
    obtain ⟨k, hk, rfl, m0, rfl⟩ := hrel
    rcases (show k = 0 ∨ k = 1 by omega) with rfl | rfl
    · go_wp2
      go_quiet (fail)
      go_wp2
      go_roundw
      case rel => exact ⟨1, by omega, by go_num, ⟨_, rfl⟩⟩
      case measure => simp [intOf]
    go_wp2
    go_loopw [8] (fun i wr => ∃ k : Nat, k ≤ 1 ∧ i = .int .i64 k ∧ ∃ nq, wr = w6.drewN nq) (fun i _ => 1 - (intOf i).toNat)
    case atStart => exact ⟨0, by omega, rfl, ⟨_, rfl⟩⟩
    obtain ⟨k, hk, rfl, m1, rfl⟩ := hrel
    rcases (show k = 0 ∨ k = 1 by omega) with rfl | rfl
    · go_wp2
      go_quiet (fail)
      go_wp2
      go_roundw
      case rel => exact ⟨1, by omega, by go_num, ⟨_, rfl⟩⟩
      case measure => simp [intOf]
    go_wp2
    go_loopw [9] (fun i wr => ∃ k : Nat, k ≤ 1 ∧ i = .int .i64 k ∧ ∃ nq, wr = w6.drewN nq) (fun i _ => 1 - (intOf i).toNat)
    case atStart => exact ⟨0, by omega, rfl, ⟨_, rfl⟩⟩
    obtain ⟨k, hk, rfl, m2, rfl⟩ := hrel
    rcases (show k = 0 ∨ k = 1 by omega) with rfl | rfl
    · go_wp2
      go_quiet (fail)
      go_wp2
      go_roundw
      case rel => exact ⟨1, by omega, by go_num, ⟨_, rfl⟩⟩
      case measure => simp [intOf]
    go_wp2
    go_quiet (fail)
    go_wp2
    go_quiet (fail)
    go_wp2
    go_quiet (fail)
    go_wp2
    go_ret
    exact ⟨rfl, by repeat (first | exact U6 | refine below_drewN ?_ _)⟩
end Go.Proofs.Qxb6627606a
