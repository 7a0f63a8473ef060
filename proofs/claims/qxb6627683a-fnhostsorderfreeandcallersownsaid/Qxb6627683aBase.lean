/-
  What both rows' proofs share: the opening of the slice of strings.
-/
import Derived.Test.Qxb6627683aWalksA
import Derived.ProofKit
import Derived.SizedLaws
namespace Go.Proofs.Qxb6627683a
open Go.ChangeShapes Go.WideShapes Go.ChangeAt Go.RowKit

theorem Try.own : ownKnob Try.prog.godebug = none := by kernel_rfl
theorem Try.laidOut : laidOutB Try.prog = true := by kernel_rfl
theorem Try.cells9 : Try.prog.cellsOf 9 = 1 := by kernel_rfl

theorem mkS_data (s : ByteArray) : mkS s.data.toList = s := by cases s; simp [mkS]
theorem open_names {H : Type} {enc : TypeId × Value → H} {W : World} {r : Reach} {b0 : Nat} {v : Value} {d : DataW H} {p : List MemPlace} (hv : Value.okWide Try.prog W r b0 22 v)
    (h : DataW.Trod enc Try.prog W 0 (fun _ => true) true 22 v d p) :
    ∃ a cap L, v = .slice a L.length cap ∧ L.length ≤ maxLen ∧ L.length ≤ cap ∧ (a = none → L.length = 0 ∧ cap = 0) ∧ Row W a L := by
  obtain ⟨a0, len, cap, rfl⟩ := okWide_slice Try.underlying22 hv
  obtain ⟨fuel, hf⟩ := h
  rcases open_strings Try.underlying22 Try.underlying9 Try.cells9 hf with ⟨hcs, _⟩ | ⟨a, len', cap', ss, hcs, _, hl, hm, hz, _, hcell, _⟩
  · simp [Value.cells] at hcs
    obtain ⟨rfl, rfl, rfl⟩ := hcs
    exact ⟨none, 0, [], rfl, by simp, by simp, fun _ => ⟨rfl, rfl⟩, fun j x hj => by simp at hj⟩
  · simp [Value.cells] at hcs
    obtain ⟨rfl, rfl, rfl⟩ := hcs
    simp only [if_true] at hz
    have hlen : ((ss.take len).map (·.data.toList)).length = len := by simp; omega
    refine ⟨some a, cap, (ss.take len).map (·.data.toList), by rw [hlen], by rw [hlen]; omega, by rw [hlen]; exact hl, (fun h => by cases h), fun j x hj => ?_⟩
    have hjl := (List.getElem?_eq_some_iff.1 hj).1
    rw [hlen] at hjl
    have hc := hcell j (by omega)
    obtain ⟨b, off, spot⟩ := a
    have hspot : spot = none := by simpa [Addr.add] using World.cell?_spot (hcell 0 (by omega))
    subst hspot
    refine ⟨b, off, rfl, ?_⟩
    rw [← add_plain, hc]
    have e : ss.getD j ByteArray.empty = mkS x := by
      rw [List.getElem?_map, List.getElem?_take_of_lt hjl, List.getElem?_eq_getElem (by omega)] at hj
      simp only [Option.map_some, Option.some.injEq] at hj
      rw [← hj, mkS_data, List.getD, List.getElem?_eq_getElem (by omega)]; rfl
    rw [e]
end Go.Proofs.Qxb6627683a
