/-
  zzBuildB1 (5): the 24 cells, one to one.
-/
import Derived.Test.Qxb6627606aWalksA
namespace Go.Proofs.Qxb6627606a
open Go.RowKit

theorem heap_alloc_new' (w : World) (o : Obj) {g : Nat} (h : g = w.heap.size) : (w.alloc o).heap[g]? = some o := by
  subst h
  show (w.heap.push o)[w.heap.size]? = _
  simp

theorem results_cell {fn : Func} {p : Tmp} {ty : TypeId} (h : fn.results = #[.cell p ty]) (tmps : Array Value) (P : Program) (w : World) :
    (results fn tmps).run P w = ((asAddr (tmps.getD p undef)).run P w).andThen fun a w₁ => (loadVar ty a).run P w₁ := by
  simp only [results, h]
  simp [Sem.run_bind, Result.andThen]
theorem load_row {P : Program} (w : World) (g : Nat) (t ty : TypeId) (cs : Array Value) (fr : Nat × Nat) (d : TypeDesc) (hg : w.heap[g]? = some (.cells cs t fr))
    (hu : P.underlying ty = some d) (hd : (match d with | .struct _ | .array _ _ => true | _ => false) = true) (hi : (P.info? ty).map (·.size) = some cs.size) :
    ((asAddr (.pointer (some ⟨g, 0, none⟩))).run P w).andThen (fun a w₁ => (loadVar ty a).run P w₁) = .ok (.agg cs) w := by
  have := run_loadVar_row w g t ty cs fr d hg hu hd hi
  simp [asAddr, this]
theorem below_setRow {B g : Nat} {a w : World} {cs : Array Value} (h : Below B a w) (hg : B ≤ g) : Below B a (w.setRow g cs) :=
  h.trans ⟨rfl, rfl, rfl, by simp, fun k hk => setRow_other _ _ _ _ (by omega)⟩

set_option maxRecDepth 100000 in
set_option maxHeartbeats 400000 in
theorem build_any (s0 s1 s2 : ByteArray) (i3 : Int) (s4 : ByteArray) (m5 : Option Nat) (a6 : Option Addr) (l6 c6 : Nat) (s7 : ByteArray) (a8 : Option Addr) (l8 c8 : Nat) (s9 s10 : ByteArray) (p11 : Option Addr) (i12 : Int)
    (b13 : Bool) (s14 s15 s16 s17 : ByteArray) (b18 b19 : Bool) (s20 s21 s22 s23 : ByteArray) (w : World) :
    Calls Try.prog 5 #[.agg #[.string s0, .string s1, .string s2, .int .i64 i3, .string s4, .map m5, .slice a6 l6 c6, .string s7, .slice a8 l8 c8, .string s9, .string s10, .pointer p11, .int .i64 i12, .bool b13, .string s14, .string s15, .string s16, .string s17, .bool b18, .bool b19, .string s20, .string s21, .string s22, .string s23]] w fun e w' =>
      e = .returned (.agg #[.string s0, .string s1, .string s2, .int .i64 i3, .string s4, .map m5, .slice a6 l6 c6, .string s7, .slice a8 l8 c8, .string s9, .string s10, .pointer p11, .int .i64 i12, .bool b13, .string s14, .string s15, .string s16, .string s17, .bool b18, .bool b19, .string s20, .string s21, .string s22, .string s23]) ∧ Below w.heap.size w w' := by
  go_enter Try.func5, Try.ntmps5
  go_wp2_with ((refine wpList_store_row rfl 43 _ _ rfl (w.heap.size + 1) _ rfl rfl 43 _ (heap_alloc_new' _ _ (by simp)) (by kernel_rfl) rfl (by kernel_rfl) ?_))
  refine bodyPost_ret (v := .agg #[.string s0, .string s1, .string s2, .int .i64 i3, .string s4, .map m5, .slice a6 l6 c6, .string s7, .slice a8 l8 c8, .string s9, .string s10, .pointer p11, .int .i64 i12, .bool b13, .string s14, .string s15, .string s16, .string s17, .bool b18, .bool b19, .string s20, .string s21, .string s22, .string s23]) ?_ rfl ⟨rfl, ?_⟩
  · rw [results_cell (p := 2) (ty := 43) Try.results5]
    exact load_row _ _ 43 43 _ _ _ (setRow_heap _ _ _ _ 43 (0, 0) (heap_alloc_new' _ _ (by simp))) Try.underlying43 rfl (by kernel_rfl)
  · exact below_setRow (((Below.refl _ _).alloc (Nat.le_refl _) _).alloc (by simp) _) (by simp)
end Go.Proofs.Qxb6627606a
