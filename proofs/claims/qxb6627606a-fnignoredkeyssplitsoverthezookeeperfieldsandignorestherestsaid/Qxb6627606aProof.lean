/-
  The row: the law's walk, lifted to the statement.
-/
import Derived.Test.Qxb6627606aWalksE
import Derived.ProofKit
import Derived.SizedLaws
namespace Go.Proofs.Qxb6627606a
open Go.ChangeShapes Go.WideShapes Go.ChangeAt Go.RowKit

theorem Try.own : ownKnob Try.prog.godebug = none := by kernel_rfl
theorem Try.laidOut : laidOutB Try.prog = true := by kernel_rfl
theorem Try.cells30 : Try.prog.cellsOf 30 = 24 := by kernel_rfl
theorem Try.cells9 : Try.prog.cellsOf 9 = 1 := by kernel_rfl
theorem Try.cells3 : Try.prog.cellsOf 3 = 1 := by kernel_rfl
theorem Try.cells22 : Try.prog.cellsOf 22 = 1 := by kernel_rfl
theorem Try.cells23 : Try.prog.cellsOf 23 = 1 := by kernel_rfl
theorem Try.cells24 : Try.prog.cellsOf 24 = 1 := by kernel_rfl
theorem Try.cells2 : Try.prog.cellsOf 2 = 1 := by kernel_rfl
theorem Try.cells26 : Try.prog.cellsOf 26 = 6 := by kernel_rfl
theorem Try.cells28 : Try.prog.cellsOf 28 = 5 := by kernel_rfl
theorem Try.cells4 : Try.prog.cellsOf 4 = 1 := by kernel_rfl

theorem fld {α : Type} {xs : List α} {i : Nat} {o : Option α} (h : o = xs[i]?) (hi : i < xs.length) : ∃ y, o = some y := ⟨xs[i], by rw [h]; simp [hi]⟩

section
variable {H : Type} {enc : TypeId × Value → H} {W : World}

theorem one_string {n : Nat} {c : Value} {y : DataW H × List MemPlace} (h : DataW.trod enc Try.prog W 0 (fun _ => true) true n 9 [c] = some y) : ∃ s, c = .string s := by
  obtain ⟨s, hs, _, _⟩ := DataW.trod_string Try.underlying9 h
  exact ⟨s, by simpa using hs⟩
theorem one_bool {n : Nat} {c : Value} {y : DataW H × List MemPlace} (h : DataW.trod enc Try.prog W 0 (fun _ => true) true n 4 [c] = some y) : ∃ s, c = .bool s := by
  obtain ⟨s, hs, _⟩ := DataW.trod_bool Try.underlying4 h
  exact ⟨s, by simpa using hs⟩
theorem one_int3 {n : Nat} {c : Value} {y : DataW H × List MemPlace} (h : DataW.trod enc Try.prog W 0 (fun _ => true) true n 3 [c] = some y) : ∃ s, c = .int .i64 s := by
  obtain ⟨s, hs, _, _⟩ := DataW.trod_int Try.underlying3 h
  exact ⟨s, by simpa using hs⟩
theorem one_int2 {n : Nat} {c : Value} {y : DataW H × List MemPlace} (h : DataW.trod enc Try.prog W 0 (fun _ => true) true n 2 [c] = some y) : ∃ s, c = .int .i64 s := by
  obtain ⟨s, hs, _, _⟩ := DataW.trod_int Try.underlying2 h
  exact ⟨s, by simpa using hs⟩
theorem one_ptr {n : Nat} {c : Value} {y : DataW H × List MemPlace} (h : DataW.trod enc Try.prog W 0 (fun _ => true) true n 24 [c] = some y) : ∃ s, c = .pointer s := by
  rcases DataW.trod_pointer Try.underlying24 h with ⟨hs, _⟩ | ⟨a, _, _, _, _, hs, _⟩
  · exact ⟨none, by simpa using hs⟩
  · exact ⟨some a, by simpa using hs⟩
theorem one_slice {n : Nat} {c : Value} {y : DataW H × List MemPlace} (h : DataW.trod enc Try.prog W 0 (fun _ => true) true n 23 [c] = some y) :
    ∃ a l cap ss, c = .slice a l cap ∧ l ≤ maxLen ∧ Strs W a l ss := by
  rcases open_strings Try.underlying23 Try.underlying9 Try.cells9 h with ⟨hcs, _⟩ | ⟨a, len, cap, ss, hcs, _, hl, hm, hz, _, hcell, _⟩
  · exact ⟨none, 0, 0, [], by simpa using hcs, by simp, fun j hj => absurd hj (by omega)⟩
  · refine ⟨some a, len, cap, ss, by simpa using hcs, by omega, fun j hj => ?_⟩
    simp only [if_true] at hz
    have hc := hcell j (by omega)
    obtain ⟨b, off, spot⟩ := a
    have hspot : spot = none := by simpa [Addr.add] using World.cell?_spot (hcell 0 (by omega))
    subst hspot
    exact ⟨b, off, rfl, by rw [← add_plain]; exact hc⟩
theorem one_map {n : Nat} {c : Value} {y : DataW H × List MemPlace} (h : DataW.trod enc Try.prog W 0 (fun _ => true) true n 22 [c] = some y) :
    ∃ m k, c = .map m ∧ ∀ o1 o2, Sem.run Try.prog (Builtin.len_ #[22] 3 #[.map m]) ((W.alloc o1).alloc o2) = .ok (.int .i64 (k : Nat)) ((W.alloc o1).alloc o2) := by
  rcases Go.WideElems.open_map Try.underlying22 h with ⟨hcs, _⟩ | ⟨b, es, clock, _, _, hcs, hb, _⟩
  · refine ⟨none, 0, by simpa using hcs, fun o1 o2 => ?_⟩
    simp [Builtin.len_, run_underlying Try.underlying22, goInt]
  · refine ⟨some b, es.size, by simpa using hcs, fun o1 o2 => ?_⟩
    have hlt : b < W.heap.size := (Array.getElem?_eq_some_iff.1 hb).1
    have hb2 : ((W.alloc o1).alloc o2).heap[b]? = some (.map es clock) := by
      rw [Below.heap_alloc _ _ _ (by simp; omega), Below.heap_alloc _ _ _ hlt]; exact hb
    simp [Builtin.len_, run_underlying Try.underlying22, MapKept.run_getObj_map hb2, goInt, Result.andThen]

set_option maxRecDepth 100000 in
set_option maxHeartbeats 1000000 in
/-- The argument, opened. -/
theorem open_cluster {r : Reach} {b0 : Nat} {v : Value} {d : DataW H} {p : List MemPlace} (hv : Value.okWide Try.prog W r b0 30 v) (h : DataW.Trod enc Try.prog W 0 (fun _ => true) true 30 v d p) :
    ∃ (s0 s1 s2 : ByteArray) (i3 : Int) (s4 : ByteArray) (m5 : Option Nat) (n5 : Nat) (a6 : Option Addr) (l6 c6 : Nat) (ss6 : List ByteArray) (s7 : ByteArray) (a8 : Option Addr) (l8 c8 : Nat) (ss8 : List ByteArray) (s9 s10 : ByteArray) (p11 : Option Addr) (i12 : Int)
      (b13 : Bool) (s14 s15 s16 s17 : ByteArray) (b18 b19 : Bool) (s20 s21 s22 s23 : ByteArray), v = .agg #[.string s0, .string s1, .string s2, .int .i64 i3, .string s4, .map m5, .slice a6 l6 c6, .string s7, .slice a8 l8 c8, .string s9, .string s10, .pointer p11, .int .i64 i12, .bool b13, .string s14, .string s15, .string s16, .string s17, .bool b18, .bool b19, .string s20, .string s21, .string s22, .string s23] ∧ l6 ≤ maxLen ∧ l8 ≤ maxLen ∧
      (∀ o1 o2, Sem.run Try.prog (Builtin.len_ #[22] 3 #[.map m5]) ((W.alloc o1).alloc o2) = .ok (.int .i64 n5) ((W.alloc o1).alloc o2)) ∧ Strs W a6 l6 ss6 ∧ Strs W a8 l8 ss8 := by
  obtain ⟨⟨cs⟩, rfl, hsz⟩ := okWide_struct Try.underlying30 hv
  rw [Try.cells30] at hsz
  obtain ⟨fuel, hf⟩ := h
  obtain ⟨xs, n, _, _, _, hlen, hfs⟩ := DataW.trod_struct Try.underlying30 hf
  clear hf hv
  match cs, hsz with
  | [x0, x1, x2, x3, x4, x5, x6, x7, x8, x9, x10, x11, x12, x13, x14, x15, x16, x17, x18, x19, x20, x21, x22, x23], _ =>
    have hlen' : xs.length = 15 := hlen
    clear hlen
    obtain ⟨_, e0⟩ := fld (hfs 0 _ rfl) (by omega)
    simp [Value.cells, Try.cells9] at e0
    obtain ⟨s0, rfl⟩ := one_string e0
    obtain ⟨_, e1⟩ := fld (hfs 1 _ rfl) (by omega)
    simp [Value.cells, Try.cells9] at e1
    obtain ⟨s1, rfl⟩ := one_string e1
    obtain ⟨_, e2⟩ := fld (hfs 2 _ rfl) (by omega)
    simp [Value.cells, Try.cells9] at e2
    obtain ⟨s2, rfl⟩ := one_string e2
    obtain ⟨_, e3⟩ := fld (hfs 3 _ rfl) (by omega)
    simp [Value.cells, Try.cells3] at e3
    obtain ⟨i3, rfl⟩ := one_int3 e3
    obtain ⟨_, e4⟩ := fld (hfs 4 _ rfl) (by omega)
    simp [Value.cells, Try.cells9] at e4
    obtain ⟨s4, rfl⟩ := one_string e4
    obtain ⟨_, e5⟩ := fld (hfs 5 _ rfl) (by omega)
    simp [Value.cells, Try.cells22] at e5
    obtain ⟨m5, n5, rfl, hm5⟩ := one_map e5
    obtain ⟨_, e6⟩ := fld (hfs 6 _ rfl) (by omega)
    simp [Value.cells, Try.cells23] at e6
    obtain ⟨a6, l6, c6, ss6, rfl, hl6, hc6⟩ := one_slice e6
    obtain ⟨_, e7⟩ := fld (hfs 7 _ rfl) (by omega)
    simp [Value.cells, Try.cells9] at e7
    obtain ⟨s7, rfl⟩ := one_string e7
    obtain ⟨_, e8⟩ := fld (hfs 8 _ rfl) (by omega)
    simp [Value.cells, Try.cells23] at e8
    obtain ⟨a8, l8, c8, ss8, rfl, hl8, hc8⟩ := one_slice e8
    obtain ⟨_, e9⟩ := fld (hfs 9 _ rfl) (by omega)
    simp [Value.cells, Try.cells9] at e9
    obtain ⟨s9, rfl⟩ := one_string e9
    obtain ⟨_, e10⟩ := fld (hfs 10 _ rfl) (by omega)
    simp [Value.cells, Try.cells9] at e10
    obtain ⟨s10, rfl⟩ := one_string e10
    obtain ⟨_, e11⟩ := fld (hfs 11 _ rfl) (by omega)
    simp [Value.cells, Try.cells24] at e11
    obtain ⟨p11, rfl⟩ := one_ptr e11
    obtain ⟨_, e12⟩ := fld (hfs 12 _ rfl) (by omega)
    simp [Value.cells, Try.cells2] at e12
    obtain ⟨i12, rfl⟩ := one_int2 e12
    obtain ⟨_, e⟩ := fld (hfs 13 _ rfl) (by omega)
    simp [Value.cells, Try.cells26] at e
    obtain ⟨xs13, n13', _, _, _, hlen13, hfs13⟩ := DataW.trod_struct Try.underlying26 e
    have hlen13' : xs13.length = 6 := hlen13
    clear hlen13 e
    obtain ⟨_, e13⟩ := fld (hfs13 0 _ rfl) (by omega)
    simp [Try.cells4] at e13
    obtain ⟨b13, rfl⟩ := one_bool e13
    obtain ⟨_, e14⟩ := fld (hfs13 1 _ rfl) (by omega)
    simp [Try.cells9] at e14
    obtain ⟨s14, rfl⟩ := one_string e14
    obtain ⟨_, e15⟩ := fld (hfs13 2 _ rfl) (by omega)
    simp [Try.cells9] at e15
    obtain ⟨s15, rfl⟩ := one_string e15
    obtain ⟨_, e16⟩ := fld (hfs13 3 _ rfl) (by omega)
    simp [Try.cells9] at e16
    obtain ⟨s16, rfl⟩ := one_string e16
    obtain ⟨_, e17⟩ := fld (hfs13 4 _ rfl) (by omega)
    simp [Try.cells9] at e17
    obtain ⟨s17, rfl⟩ := one_string e17
    obtain ⟨_, e18⟩ := fld (hfs13 5 _ rfl) (by omega)
    simp [Try.cells4] at e18
    obtain ⟨b18, rfl⟩ := one_bool e18
    obtain ⟨_, e⟩ := fld (hfs 14 _ rfl) (by omega)
    simp [Value.cells, Try.cells28] at e
    obtain ⟨xs14, n14', _, _, _, hlen14, hfs14⟩ := DataW.trod_struct Try.underlying28 e
    have hlen14' : xs14.length = 5 := hlen14
    clear hlen14 e
    obtain ⟨_, e19⟩ := fld (hfs14 0 _ rfl) (by omega)
    simp [Try.cells4] at e19
    obtain ⟨b19, rfl⟩ := one_bool e19
    obtain ⟨_, e20⟩ := fld (hfs14 1 _ rfl) (by omega)
    simp [Try.cells9] at e20
    obtain ⟨s20, rfl⟩ := one_string e20
    obtain ⟨_, e21⟩ := fld (hfs14 2 _ rfl) (by omega)
    simp [Try.cells9] at e21
    obtain ⟨s21, rfl⟩ := one_string e21
    obtain ⟨_, e22⟩ := fld (hfs14 3 _ rfl) (by omega)
    simp [Try.cells9] at e22
    obtain ⟨s22, rfl⟩ := one_string e22
    obtain ⟨_, e23⟩ := fld (hfs14 4 _ rfl) (by omega)
    simp [Try.cells9] at e23
    obtain ⟨s23, rfl⟩ := one_string e23
    exact ⟨s0, s1, s2, i3, s4, m5, n5, a6, l6, c6, ss6, s7, a8, l8, c8, ss8, s9, s10, p11, i12, b13, s14, s15, s16, s17, b18, b19, s20, s21, s22, s23, rfl, hl6, hl8, hm5, hc6, hc8⟩
end

set_option maxRecDepth 100000 in
theorem lifted (os : Os) (started : os.Started) (H : Type) (enc : TypeId × Value → H) :
    ReturnsInHanded {} Try.checked os 3 .any (Rows.fnIgnoredKeysSplitsOverTheZooKeeperFieldsAndIgnoresTheRestSpec.pre6 enc Try.prog Try.f3 Rows.fnIgnoredKeysSplitsOverTheZooKeeperFieldsAndIgnoresTheRestRow.domain false) (Rows.fnIgnoredKeysSplitsOverTheZooKeeperFieldsAndIgnoresTheRestSpec.post enc Try.prog Try.f3 false true false false) := by
  refine returnsInHanded_of_change (C := Try.checked) Try.own started (by kernel_rfl) Try.func3
    (ChangeSpec.witness6 (enc := enc) (C := Try.checked) false ⟨#[], #[.agg #[.string ⟨#[]⟩, .string ⟨#[]⟩, .string ⟨#[]⟩, .int .i64 0, .string ⟨#[]⟩, .map .none, .slice .none 0 0, .string ⟨#[]⟩, .slice .none 0 0, .string ⟨#[]⟩, .string ⟨#[]⟩, .pointer .none, .int .i64 0, .bool false, .string ⟨#[]⟩, .string ⟨#[]⟩, .string ⟨#[]⟩, .string ⟨#[]⟩, .bool false, .bool false, .string ⟨#[]⟩, .string ⟨#[]⟩, .string ⟨#[]⟩, .string ⟨#[]⟩]], []⟩ 8 (by kernel_rfl) (by kernel_rfl) (by kernel_rfl) (by kernel_rfl)) ?_
  intro W base args ds gs before hval0 hW hcnd _
  have hval : ∀ (j : Nat) t v, Try.f3.params[j]? = some t → args[j]? = some v → Value.okWide Try.prog W .any base t v := hval0
  have hW' := hW
  obtain ⟨p, q, hA0, hV, rfl, hfz, hnd⟩ := hW
  have hA : DataW.TrodAll enc Try.prog W 0 (fun _ => true) true Try.f3.params.toList args.toList ds p := hA0
  rw [Try.params3] at hA hval
  obtain ⟨v0, d0, rfl, rfl, h0⟩ := trodAll_one hA
  obtain ⟨rfl, rfl⟩ := trodVars_none hV
  clear hA0 hval0 hA
  simp only [List.append_nil] at hW'
  have hlt : ∀ x ∈ p, x.block < W.heap.size := fun x hx => by simpa using hW'.lt x hx
  obtain ⟨s0, s1, s2, i3, s4, m5, n5, a6, l6, c6, ss6, s7, a8, l8, c8, ss8, s9, s10, p11, i12, b13, s14, s15, s16, s17, b18, b19, s20, s21, s22, s23, rfl, hl6, hl8, hm5, hc6, hc8⟩ := open_cluster (hval 0 30 v0 rfl rfl) h0
  refine (law_any s0 s1 s2 i3 s4 m5 n5 a6 l6 c6 ss6 s7 a8 l8 c8 ss8 s9 s10 p11 i12 b13 s14 s15 s16 s17 b18 b19 s20 s21 s22 s23 W hl6 hl8 hm5 hc6 hc8 _ (!s9.toList.isEmpty) (!s10.toList.isEmpty) rfl (by simp) (by simp)).mono fun e W' ⟨he, hnx⟩ => ?_
  subst he
  refine ⟨_, rfl, _, _, _, [], p, [], hW', ?_, ?_, rfl, hnx.frame _, fun h => by cases h⟩
  · exact trodAll_mk1 (shut_bool Try.underlying4 true)
  · exact trodAll_mk1 (Below.trod Try.laidOut (by kernel_rfl) (of_decide_eq_true (by kernel_rfl)) h0 hnx hlt)

theorem proved : Rows.FnIgnoredKeysSplitsOverTheZooKeeperFieldsAndIgnoresTheRestSaid :=
  OpenClaim.holds_of_wide 3 Try.f3 rfl rfl rfl rfl rfl rfl rfl ⟨rfl, rfl, rfl, rfl, rfl⟩ rfl rfl rfl rfl rfl (by kernel_rfl) Try.func3 (by kernel_rfl)
    (of_decide_eq_true (by kernel_rfl)) (by unfold Func.isWrapper; first | (rw [if_pos (by decide +kernel)]; kernel_rfl) | (rw [if_neg (by decide +kernel)]; exact ⟨rfl, rfl⟩))
    (fun os started H enc _ => lifted os started H enc)
end Go.Proofs.Qxb6627606a
