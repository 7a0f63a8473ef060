import Derived.Test.Qxb6627606aWalksA
namespace Go.Proofs.Qxb6627606a
open Go.RowKit

def IsBool (e : Ending) : Prop := ∃ b : Bool, e = .returned (.bool b)
theorem isBool (b : Bool) : IsBool (.returned (.bool b)) := ⟨b, rfl⟩

set_option maxRecDepth 100000 in
set_option maxHeartbeats 400000 in
theorem tooBig_any (s0 s1 s2 : ByteArray) (i3 : Int) (s4 : ByteArray) (m5 : Value) (n5 : Nat) (a6 : Option Addr) (l6 c6 : Nat) (ss6 : List ByteArray) (s7 : ByteArray) (a8 : Option Addr) (l8 c8 : Nat) (ss8 : List ByteArray) (s9 s10 : ByteArray) (p11 : Value) (i12 : Int)
    (b13 : Bool) (s14 s15 s16 s17 : ByteArray) (b18 b19 : Bool) (s20 s21 s22 s23 : ByteArray) (w : World) (hl6 : l6 ≤ maxLen) (hl8 : l8 ≤ maxLen)
    (hm5 : ∀ o, Sem.run Try.prog (Builtin.len_ #[22] 3 #[m5]) (w.alloc o) = .ok (.int .i64 n5) (w.alloc o))
    (hc6 : Strs w a6 l6 ss6) (hc8 : Strs w a8 l8 ss8) :
    Calls Try.prog 4 #[.agg #[.string s0, .string s1, .string s2, .int .i64 i3, .string s4, m5, .slice a6 l6 c6, .string s7, .slice a8 l8 c8, .string s9, .string s10, p11, .int .i64 i12,
    .bool b13, .string s14, .string s15, .string s16, .string s17, .bool b18, .bool b19, .string s20, .string s21, .string s22, .string s23]] w fun e w' => IsBool e ∧ Below w.heap.size w w' := by
  go_enter Try.func4, Try.ntmps4
  go_wp2_with (go_at_call 8; refine (add_any _ _ _ (by omega) (by omega)).mono ?_; rintro e w' ⟨⟨r, rfl, hr0, hr1⟩, rfl⟩)
  · go_ret
    exact ⟨isBool _, (Below.refl _ _).alloc (Nat.le_refl _) _⟩
  · go_ret
    exact ⟨isBool _, (Below.refl _ _).alloc (Nat.le_refl _) _⟩
  · go_ret
    exact ⟨isBool _, (Below.refl _ _).alloc (Nat.le_refl _) _⟩
  · refine (addList_any _ _ _ _ ss6 _ (by omega) hl6 (hc6.alloc _)).mono ?_
    rintro e w' ⟨⟨r6, rfl, hr6⟩, rfl⟩
    go_wp2_with fail
    · go_ret
      exact ⟨isBool _, (Below.refl _ _).alloc (Nat.le_refl _) _⟩
    · refine (addList_any _ _ _ _ ss8 _ (by omega) hl8 (hc8.alloc _)).mono ?_
      rintro e w' ⟨⟨r8, rfl, hr8⟩, rfl⟩
      go_wp2
      go_ret
      exact ⟨isBool _, (Below.refl _ _).alloc (Nat.le_refl _) _⟩
  · go_ret
    exact ⟨isBool _, (Below.refl _ _).alloc (Nat.le_refl _) _⟩
end Go.Proofs.Qxb6627606a
