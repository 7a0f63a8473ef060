/-
  What the law FnHostsOrderFreeAndCallersOwn (4) wants besides: least and greatest, rotations, the guard with its bound.
-/
import Derived.Test.Qxb6627683aWalksE
namespace Go.Proofs.Qxb6627683a
open Go.RowKit Go.Sort

def MM (L : List (List UInt8)) (lo hi : List UInt8) : Prop := (lo ∈ L ∧ ∀ y ∈ L, lo ≤ y) ∧ (hi ∈ L ∧ ∀ y ∈ L, y ≤ hi)
theorem mm_first (x : List UInt8) : MM [x] x x := by
  refine ⟨⟨by simp, fun y hy => ?_⟩, ⟨by simp, fun y hy => ?_⟩⟩ <;> rw [List.mem_singleton.1 hy] <;> exact le_refl' _
theorem mm_next {L : List (List UInt8)} {lo hi x lo' hi' : List UInt8} (h : MM L lo hi) (hlo : (x < lo ∧ lo' = x) ∨ (¬ x < lo ∧ lo' = lo)) (hhi : (hi < x ∧ hi' = x) ∨ (¬ hi < x ∧ hi' = hi)) : MM (L ++ [x]) lo' hi' := by
  obtain ⟨⟨h1, h2⟩, ⟨h3, h4⟩⟩ := h
  refine ⟨?_, ?_⟩
  · rcases hlo with ⟨ha, rfl⟩ | ⟨ha, rfl⟩
    · refine ⟨by simp, fun y hy => ?_⟩
      rcases List.mem_append.1 hy with hy | hy
      · exact List.le_trans (le_of_lt' ha) (h2 y hy)
      · rw [List.mem_singleton.1 hy]; exact le_refl' _
    · refine ⟨by simp [h1], fun y hy => ?_⟩
      rcases List.mem_append.1 hy with hy | hy
      · exact h2 y hy
      · rw [List.mem_singleton.1 hy]; exact List.not_lt.1 ha
  · rcases hhi with ⟨ha, rfl⟩ | ⟨ha, rfl⟩
    · refine ⟨by simp, fun y hy => ?_⟩
      rcases List.mem_append.1 hy with hy | hy
      · exact List.le_trans (h4 y hy) (le_of_lt' ha)
      · rw [List.mem_singleton.1 hy]; exact le_refl' _
    · refine ⟨by simp [h3], fun y hy => ?_⟩
      rcases List.mem_append.1 hy with hy | hy
      · exact h4 y hy
      · rw [List.mem_singleton.1 hy]; exact List.not_lt.1 ha
theorem mm_hosts {L : List (List UInt8)} {lo hi : List UInt8} (h : MM L lo hi) : ∃ m, (hostsOf L).length = m + 1 ∧ (hostsOf L)[0]? = some lo ∧ (hostsOf L)[m]? = some hi := by
  have hi1 := hosts_inc L
  have hm := mem_hosts L
  have hne : (hostsOf L).length ≠ 0 := fun e => by
    have := (hm lo).2 h.1.1
    rw [List.length_eq_zero_iff.1 e] at this; cases this
  obtain ⟨m, hmm⟩ : ∃ m, (hostsOf L).length = m + 1 := ⟨(hostsOf L).length - 1, by omega⟩
  refine ⟨m, hmm, ?_, ?_⟩
  · obtain ⟨x, hx⟩ : ∃ x, (hostsOf L)[0]? = some x := ⟨_, List.getElem?_eq_getElem (by omega)⟩
    rw [hx]
    congr 1
    refine List.le_antisymm ?_ (h.1.2 x ((hm x).1 (List.mem_of_getElem? hx)))
    obtain ⟨p, hp⟩ := List.mem_iff_getElem?.1 ((hm lo).2 h.1.1)
    rcases Nat.eq_zero_or_pos p with rfl | hp0
    · rw [hx] at hp; cases hp; exact le_refl' _
    · exact le_of_lt' (hi1.lt hx hp hp0)
  · obtain ⟨x, hx⟩ : ∃ x, (hostsOf L)[m]? = some x := ⟨_, List.getElem?_eq_getElem (by omega)⟩
    rw [hx]
    congr 1
    refine List.le_antisymm (h.2.2 x ((hm x).1 (List.mem_of_getElem? hx))) ?_
    obtain ⟨p, hp⟩ := List.mem_iff_getElem?.1 ((hm hi).2 h.2.1)
    have hpl := (List.getElem?_eq_some_iff.1 hp).1
    rcases Nat.lt_or_ge p m with hpm | hpm
    · exact le_of_lt' (hi1.lt hp hx hpm)
    · obtain rfl : p = m := by omega
      rw [hx] at hp; cases hp; exact le_refl' _

theorem mkS_size (x : List UInt8) : (mkS x).size = x.length := by simp [mkS, ByteArray.size]

def Guarded (L : List (List UInt8)) (e : Ending) : Prop := e = .returned (.bool false) ∨ (e = .returned (.bool true) ∧ ∀ x ∈ L, x.length ≤ 1048576)
set_option maxHeartbeats 400000 in
theorem guard13_long (a0 : Option Addr) (cap : Nat) (i : Int) (L : List (List UInt8)) (w : World) (hl : L.length ≤ maxLen) (hr : Row w a0 L) :
    Calls Try.prog 13 #[.slice a0 L.length cap, .int .i64 i] w fun e w' => Guarded L e ∧ w' = w := by
  unfold maxLen at hl
  have HR := hide hr
  clear hr
  go_enter Try.func13, Try.ntmps13
  go_wp2
  all_goals (try (go_ret; exact ⟨.inl rfl, rfl⟩))
  go_loop [5, 6] (fun t i => ∃ (m : Int) (k : Nat), k ≤ L.length ∧ i = .int .i64 k ∧ t = .int .i64 m ∧ Hid (∀ x ∈ L.take k, x.length ≤ 1048576)) (fun _ i => L.length - (intOf i).toNat)
  case atStart => exact ⟨_, 0, Nat.zero_le _, rfl, rfl, hide (by simp)⟩
  case round =>
    obtain ⟨m, k, hk, rfl, rfl, HK⟩ := hrel
    by_cases hlt : k < L.length
    · obtain ⟨x, hx⟩ : ∃ x, L[k]? = some x := ⟨_, List.getElem?_eq_getElem hlt⟩
      obtain ⟨b, off, rfl, hcell⟩ := unhide HR k x hx
      have HX := hide hx
      clear HR hx
      have hms := mkS_size x
      by_cases hxl : x.length ≤ 1048576
      · have hxs : (mkS x).size ≤ 1048576 := by omega
        have HN : Hid (∀ y ∈ L.take (k + 1), y.length ≤ 1048576) := hide (fun y hy => by
          rw [List.take_add_one, unhide HX] at hy
          rcases List.mem_append.1 hy with hy | hy
          · exact unhide HK y hy
          · simp at hy; subst hy; exact hxl)
        clear hms HK hxl
        go_wp2
        · go_ret
          exact ⟨.inl rfl, rfl⟩
        · go_round
          case rel => exact ⟨_, k + 1, by omega, by go_num, rfl, HN⟩
          case measure => simp [intOf]; omega
      · have hxs : 1048576 < (mkS x).size := by omega
        clear hms hxl
        go_wp2
        go_ret
        exact ⟨.inl rfl, rfl⟩
    · have hkk : L.take k = L := List.take_of_length_le (by omega)
      rw [hkk] at HK
      go_wp2
      go_ret
      exact ⟨.inr ⟨rfl, unhide HK⟩, rfl⟩

/-! ### rotations -/
theorem rot_start (L : List (List UInt8)) (s : Nat) : (L.take s).drop s = [] := List.drop_eq_nil_of_le (by simp; omega)
theorem rot_one {L : List (List UInt8)} {s k : Nat} {x : List UInt8} (hs : s ≤ k) (hx : L[k]? = some x) : (L.take (k + 1)).drop s = (L.take k).drop s ++ [x] := by
  have hk := (List.getElem?_eq_some_iff.1 hx).1
  rw [List.take_add_one, hx, List.drop_append_of_le_length (by simp; omega)]; rfl
theorem rot_two {L : List (List UInt8)} {s k : Nat} {x : List UInt8} (hx : L[k]? = some x) : L.drop s ++ L.take (k + 1) = (L.drop s ++ L.take k) ++ [x] := by
  rw [List.take_add_one, hx, List.append_assoc]; rfl
theorem rot_perm (L : List (List UInt8)) (s : Nat) : (L.drop s ++ L.take s).Perm L := by
  have h := (List.perm_append_comm (l₁ := L.drop s) (l₂ := L.take s))
  rwa [List.take_append_drop] at h
theorem rot_length (L : List (List UInt8)) (s : Nat) : (L.drop s ++ L.take s).length = L.length := (rot_perm L s).length_eq

theorem own_push0 {w wr w1 : World} {v v' : Value} {S : List (List UInt8)} {x : List UInt8} (o : Obj) (h : Own w wr v S)
    (hown : w1.ownsRow w.heap.size 9 1 v' (S.length + 1) (S.map encStr ++ [.string (mkS x)])) (hg : (wr.alloc o).grownBy w1 v.ownBlock) : Own w w1 v' (S ++ [x]) := by
  obtain ⟨h1, h2⟩ := h
  refine ⟨by simpa [mkS] using hown, ?_⟩
  have hb : Below w.heap.size w (wr.alloc o) := h2.alloc h2.size _
  exact hb.grown hg hb.size (fun j hj => (h1.lt j hj).1)
theorem one_new0 (w : World) (x : Value) (t : TypeId) : ∀ (j : Nat) (u : Value), [x][j]? = some u → (w.alloc (.cells #[x] t)).cell? ((⟨w.heap.size, 0, none⟩ : Addr).add j) = some u := by
  intro j u hj
  match j, hj with
  | 0, hj => simp at hj; subst hj; simp [Addr.add]

/-! ### the first answer, overwritten -/
def FRel (w2 wr : World) (g b : Nat) (S : List (List UInt8)) (k : Nat) : Prop :=
  (∀ j x, k ≤ j → S[j]? = some x → wr.cell? ⟨g, j, none⟩ = some (.string (mkS x)) ∧ wr.frozen? ⟨g, j, none⟩ = false) ∧ Row wr (some ⟨b, 0, none⟩) S ∧ Below w2.heap.size w2 wr
theorem frel_next {w2 wr : World} {g b : Nat} {S : List (List UInt8)} {k : Nat} (v : Value) (h : FRel w2 wr g b S k) (hg : w2.heap.size ≤ g) (hgb : g ≠ b) : FRel w2 (wr.setCell ⟨g, k, none⟩ v) g b S (k + 1) := by
  obtain ⟨h1, h2, h3⟩ := h
  refine ⟨?_, ?_, h3.setCell hg _⟩
  · intro j x hj hx
    obtain ⟨c, f⟩ := h1 j x (by omega) hx
    have hne : (⟨g, k, none⟩ : Addr) ≠ ⟨g, j, none⟩ := fun e => by injection e with _ e2 _; omega
    exact ⟨by rw [← c]; exact World.cell?_setCell_other _ _ _ _ hne, by simpa using f⟩
  · intro j x hx
    obtain ⟨b', off, hab, hc⟩ := h2 j x hx
    refine ⟨b', off, hab, ?_⟩
    simp only [Option.some.injEq, Addr.mk.injEq, and_true] at hab
    have hne : (⟨g, k, none⟩ : Addr) ≠ ⟨b', off + j, none⟩ := fun e => by injection e with e1 _ _; exact hgb (e1.trans hab.1.symm)
    rw [← hc]
    exact World.cell?_setCell_other _ _ _ _ hne
end Go.Proofs.Qxb6627683a
