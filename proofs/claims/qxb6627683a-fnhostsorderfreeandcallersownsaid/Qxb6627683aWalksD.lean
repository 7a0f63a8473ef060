/-
  union (12): two strictly increasing lists merged, in new memory.
-/
import Derived.Test.Qxb6627683aWalksC
namespace Go.Proofs.Qxb6627683a
open Go.RowKit Go.Sort

def Own (w wr : World) (v : Value) (S : List (List UInt8)) : Prop :=
  wr.ownsRow w.heap.size 9 1 v S.length (S.map encStr) ∧ Below w.heap.size w wr
theorem own_drewN {w : World} {base : Nat} {e : TypeId} {size : Nat} {v : Value} {n : Nat} {xs : List Value} (h : w.ownsRow base e size v n xs) (q : Nat) : (w.drewN q).ownsRow base e size v n xs := h
theorem one_new (w : World) (x : Value) (t : TypeId) (q : Nat) : ∀ (j : Nat) (u : Value), [x][j]? = some u → ((w.drewN q).alloc (.cells #[x] t)).cell? ((⟨w.heap.size, 0, none⟩ : Addr).add j) = some u := by
  intro j u hj
  match j, hj with
  | 0, hj =>
    simp at hj; subst hj
    have : ∀ W : World, (W.alloc (.cells #[x] t)).cell? ((⟨W.heap.size, 0, none⟩ : Addr).add 0) = some x := fun W => by simp [Addr.add]
    exact this (w.drewN q)
theorem one_str (s : ByteArray) : ∀ u ∈ [Value.string s], u.oneCell' = true := by
  intro u hu; simp at hu; subst hu; rfl
theorem own_push {w wr w1 : World} {v v' : Value} {S : List (List UInt8)} {x : List UInt8} (o : Obj) (q : Nat) (h : Own w wr v S)
    (hown : w1.ownsRow w.heap.size 9 1 v' (S.length + 1) (S.map encStr ++ [.string (mkS x)])) (hg : ((wr.drewN q).alloc o).grownBy w1 v.ownBlock) : Own w w1 v' (S ++ [x]) := by
  obtain ⟨h1, h2⟩ := h
  refine ⟨by simpa [mkS] using hown, ?_⟩
  have hb : Below w.heap.size w ((wr.drewN q).alloc o) := (below_drewN h2 q).alloc h2.size _
  exact hb.grown hg hb.size (fun j hj => (h1.lt j hj).1)
theorem own_same {w wr : World} {v : Value} {S : List (List UInt8)} (h : Own w wr v S) (q : Nat) : Own w (wr.drewN q) v S := ⟨h.1, below_drewN h.2 q⟩
theorem Own.form {w wr : World} {v : Value} {S : List (List UInt8)} {n : Nat} (h : Own w wr v S) (hn : S.length = n) : ∃ ao cap, v = .slice ao n cap ∧ ∀ j x, S[j]? = some x → ∃ g, ao = some ⟨g, 0, none⟩ ∧ wr.cell? ⟨g, j, none⟩ = some (.string (mkS x)) := by
  subst hn
  obtain ⟨⟨h1, h2⟩, _⟩ := h
  rcases h2 with ⟨rfl, h2⟩ | ⟨g, cap, cur, rfl, hg, hh, h3, h4, h5, h6⟩
  · refine ⟨none, 0, by rw [h2], fun j x hx => ?_⟩
    have := (List.getElem?_eq_some_iff.1 hx).1
    omega
  · refine ⟨some ⟨g, 0, none⟩, cap, rfl, fun j x hx => ⟨g, rfl, ?_⟩⟩
    have hj := (List.getElem?_eq_some_iff.1 hx).1
    have h7 : cur.toList[j]? = some (.string (mkS x)) := by
      rw [← List.getElem?_take_of_lt (show j < S.length * 1 by omega), h6, List.getElem?_map, hx]; rfl
    simp [World.cell?, hh]
    simpa using h7

/-- What holds at each round's head. -/
def URel (w wr : World) (A B : List (List UInt8)) (i j : Nat) (v : Value) (S : List (List UInt8)) : Prop := Own w wr v S ∧ UInv A B i j S

set_option maxHeartbeats 2000000 in
set_option maxRecDepth 100000 in
theorem union_any (a b : Option Addr) (cap cap' : Nat) (A B : List (List UInt8)) (w : World) (hla : A.length ≤ 65536) (hlb : B.length ≤ 65536) (ha : Row w a A) (hb : Row w b B) (hA : Inc A) (hB : Inc B) :
    Calls Try.prog 12 #[.slice a A.length cap, .slice b B.length cap'] w fun e w' => ∃ v S, e = .returned v ∧ Own w w' v S ∧ Inc S ∧ ∀ x, x ∈ S ↔ x ∈ A ∨ x ∈ B := by
  obtain ⟨i0, hif, hz0, hz1, hz2⟩ := info_parts Try.info9
  have HA := hide ha
  have HB := hide hb
  have HIA := hide hA
  have HIB := hide hB
  clear ha hb hA hB
  go_enter Try.func12, Try.ntmps12
  go_wp2_with (at_make; refine wpList_make_own _ rfl _ _ 22 rfl w.heap.size 9 i0 (.string ⟨#[]⟩) 1 Try.underlying22 hif hz0 hz1 _ _ _ (A.length + B.length) rfl rfl (by omega) (by rw [hz2]; omega) (by unfold maxLen; omega) (Nat.le_refl _) ?_)
  intro w1 hown hgrow
  have HR : Hid (URel w w1 A B 0 0 (.slice (some ⟨w.heap.size, 0, none⟩) 0 (A.length + B.length)) []) := hide ⟨⟨hown, (Below.refl _ _).grown hgrow (Nat.le_refl _) (fun _ h => by cases h)⟩, uinv_start A B⟩
  clear hown hgrow
  go_wp2
  go_loopw [5, 6, 7] (fun v s6 s7 wr => ∃ (i j : Nat) (S : List (List UInt8)), i ≤ A.length ∧ j ≤ B.length ∧ s6 = .int .i64 i ∧ s7 = .int .i64 j ∧ Hid (URel w wr A B i j v S)) (fun _ s6 s7 _ => (A.length - (intOf s6).toNat) + (B.length - (intOf s7).toNat))
  case atStart => exact ⟨0, 0, [], Nat.zero_le _, Nat.zero_le _, rfl, rfl, HR⟩
  clear HR
  obtain ⟨i, j, S, hi, hj, rfl, rfl, HK⟩ := hrel
  have hSl : S.length ≤ i + j := (unhide HK).2.2.2.2
  by_cases hia : i < A.length
  · by_cases hjb : j < B.length
    · obtain ⟨x, hx⟩ : ∃ x, A[i]? = some x := ⟨_, List.getElem?_eq_getElem hia⟩
      obtain ⟨ba, oa, rfl, hca⟩ := ((unhide HA).below (unhide HK).1.2) i x hx
      have hia2 : (i : Int) < (A.length : Int) := by omega
      obtain ⟨y, hy⟩ : ∃ x, B[j]? = some x := ⟨_, List.getElem?_eq_getElem hjb⟩
      obtain ⟨bb, ob, rfl, hcb⟩ := ((unhide HB).below (unhide HK).1.2) j y hy
      have hjb2 : (j : Int) < (B.length : Int) := by omega
      have hdj : decide (B.length ≤ j) = false := decide_eq_false (by omega)
      have hdy := inc_drop_le (unhide HIB) hy
      have hdx := inc_drop_le (unhide HIA) hx
      by_cases hxy : x ≤ y
      · have HY : Hid (∀ z ∈ B.drop j, x ≤ z) := hide (fun z hz => List.le_trans hxy (hdy.1 z hz))
        have HS := hide hx
        clear HA HB hdx hdy hx hy
        by_cases hlt : x < y
        · have t1 : Op.bytesLess (mkS x).toList (mkS y).toList = true := by rw [less_eq]; exact decide_eq_true hlt
          clear hlt hxy
          rcases List.eq_nil_or_concat S with hS | ⟨T, l, hS⟩
          · subst hS
            obtain ⟨ao, co, rfl, FF⟩ := (unhide HK).1.form (n := 0) rfl
            have HU := hide (uinv_put (unhide HK).2 (unhide HIA) (unhide HS) (unhide HY) (fun l h => by cases h))
            have hown := (unhide HK).1.1
            have hsz := (unhide HK).1.2.size
            simp only [List.length_nil, List.map_nil] at hown
            clear FF hSl
            go_wp2
            go_quiet (fail)
            go_wp2_with (at_builtin; refine wpList_append_own _ rfl _ _ 22 rfl w.heap.size 9 i0 (.string ⟨#[]⟩) 1 16 Try.underlying22 hif hz0 hz1 hz2 rfl (by decide) _ _ _ rfl ((own_drewN hown _).alloc _) ⟨wr.heap.size, 0, none⟩ 1 1 [.string (mkS x)] rfl rfl (one_new _ _ _ _) (one_str _) (by unfold maxLen; omega) (by omega) (by exact Nat.le_trans hsz (by simp)) ?_)
            intro v' w2 hown' hgrow _
            have HP := hide (own_push (x := x) _ _ (unhide HK).1 (by simpa using hown') hgrow)
            clear hown' hgrow hown HK
            go_wp2
            go_roundw
            case rel => exact ⟨i + 1, j, _, by omega, by omega, by go_num, rfl, hide ⟨unhide HP, unhide HU⟩⟩
            case measure => simp [intOf]; omega
          · rw [List.concat_eq_append] at hS
            subst hS
            obtain ⟨ao, co, rfl, FF⟩ := (unhide HK).1.form (n := T.length + 1) (by simp)
            obtain ⟨g, rfl, hcl⟩ := FF T.length l (by simp)
            have hsz := (unhide HK).1.2.size
            simp only [List.length_append, List.length_cons, List.length_nil, Nat.zero_add] at hSl
            have hne0 : (((T.length + 1 : Nat) : Int) == 0) = false := beq_eq_false_iff_ne.2 (by omega)
            have hne1 : (((T.length : Nat) : Int) + 1 == 0) = false := beq_eq_false_iff_ne.2 (by omega)
            clear FF
            by_cases hls : l = x
            · subst hls
              have HU := hide (uinv_keep (unhide HK).2 (unhide HS) (by simp))
              have HO := hide (own_same (unhide HK).1)
              clear HK
              go_wp2
              go_quiet (fail)
              go_wp2
              go_roundw
              case rel => exact ⟨i + 1, j, _, by omega, by omega, by go_num, rfl, hide ⟨unhide HO _, unhide HU⟩⟩
              case measure => simp [intOf]; omega
            · have tl : ((mkS l).toList == (mkS x).toList) = false := by rw [same_eq]; exact decide_eq_false hls
              have HU := hide (uinv_put (unhide HK).2 (unhide HIA) (unhide HS) (unhide HY) (fun l' h => by simp at h; subst h; exact hls))
              have hown := (unhide HK).1.1
              simp only [List.length_append, List.length_cons, List.length_nil, Nat.zero_add] at hown
              clear hls
              go_wp2
              go_quiet (fail)
              go_wp2_with (at_builtin; refine wpList_append_own _ rfl _ _ 22 rfl w.heap.size 9 i0 (.string ⟨#[]⟩) 1 16 Try.underlying22 hif hz0 hz1 hz2 rfl (by decide) _ _ _ rfl ((own_drewN hown _).alloc _) ⟨wr.heap.size, 0, none⟩ 1 1 [.string (mkS x)] rfl rfl (one_new _ _ _ _) (one_str _) (by unfold maxLen; omega) (by omega) (by exact Nat.le_trans hsz (by simp)) ?_)
              intro v' w2 hown' hgrow _
              have HP := hide (own_push (x := x) _ _ (unhide HK).1 (by simpa using hown') hgrow)
              clear hown' hgrow hown HK
              go_wp2
              go_roundw
              case rel => exact ⟨i + 1, j, _, by omega, by omega, by go_num, rfl, hide ⟨unhide HP, unhide HU⟩⟩
              case measure => simp [intOf]; omega
        · obtain rfl : x = y := List.le_antisymm hxy (List.not_lt.1 hlt)
          have t1 : Op.bytesLess (mkS x).toList (mkS x).toList = false := by rw [less_eq]; exact decide_eq_false (lt_irrefl' x)
          clear hlt hxy
          rcases List.eq_nil_or_concat S with hS | ⟨T, l, hS⟩
          · subst hS
            obtain ⟨ao, co, rfl, FF⟩ := (unhide HK).1.form (n := 0) rfl
            have HU := hide (uinv_put (unhide HK).2 (unhide HIA) (unhide HS) (unhide HY) (fun l h => by cases h))
            have hown := (unhide HK).1.1
            have hsz := (unhide HK).1.2.size
            simp only [List.length_nil, List.map_nil] at hown
            clear FF hSl
            go_wp2
            go_quiet (fail)
            go_wp2_with (at_builtin; refine wpList_append_own _ rfl _ _ 22 rfl w.heap.size 9 i0 (.string ⟨#[]⟩) 1 16 Try.underlying22 hif hz0 hz1 hz2 rfl (by decide) _ _ _ rfl ((own_drewN hown _).alloc _) ⟨wr.heap.size, 0, none⟩ 1 1 [.string (mkS x)] rfl rfl (one_new _ _ _ _) (one_str _) (by unfold maxLen; omega) (by omega) (by exact Nat.le_trans hsz (by simp)) ?_)
            intro v' w2 hown' hgrow _
            have HP := hide (own_push (x := x) _ _ (unhide HK).1 (by simpa using hown') hgrow)
            clear hown' hgrow hown HK
            go_wp2
            go_roundw
            case rel => exact ⟨i + 1, j, _, by omega, by omega, by go_num, rfl, hide ⟨unhide HP, unhide HU⟩⟩
            case measure => simp [intOf]; omega
          · rw [List.concat_eq_append] at hS
            subst hS
            obtain ⟨ao, co, rfl, FF⟩ := (unhide HK).1.form (n := T.length + 1) (by simp)
            obtain ⟨g, rfl, hcl⟩ := FF T.length l (by simp)
            have hsz := (unhide HK).1.2.size
            simp only [List.length_append, List.length_cons, List.length_nil, Nat.zero_add] at hSl
            have hne0 : (((T.length + 1 : Nat) : Int) == 0) = false := beq_eq_false_iff_ne.2 (by omega)
            have hne1 : (((T.length : Nat) : Int) + 1 == 0) = false := beq_eq_false_iff_ne.2 (by omega)
            clear FF
            by_cases hls : l = x
            · subst hls
              have HU := hide (uinv_keep (unhide HK).2 (unhide HS) (by simp))
              have HO := hide (own_same (unhide HK).1)
              clear HK
              go_wp2
              go_quiet (fail)
              go_wp2
              go_roundw
              case rel => exact ⟨i + 1, j, _, by omega, by omega, by go_num, rfl, hide ⟨unhide HO _, unhide HU⟩⟩
              case measure => simp [intOf]; omega
            · have tl : ((mkS l).toList == (mkS x).toList) = false := by rw [same_eq]; exact decide_eq_false hls
              have HU := hide (uinv_put (unhide HK).2 (unhide HIA) (unhide HS) (unhide HY) (fun l' h => by simp at h; subst h; exact hls))
              have hown := (unhide HK).1.1
              simp only [List.length_append, List.length_cons, List.length_nil, Nat.zero_add] at hown
              clear hls
              go_wp2
              go_quiet (fail)
              go_wp2_with (at_builtin; refine wpList_append_own _ rfl _ _ 22 rfl w.heap.size 9 i0 (.string ⟨#[]⟩) 1 16 Try.underlying22 hif hz0 hz1 hz2 rfl (by decide) _ _ _ rfl ((own_drewN hown _).alloc _) ⟨wr.heap.size, 0, none⟩ 1 1 [.string (mkS x)] rfl rfl (one_new _ _ _ _) (one_str _) (by unfold maxLen; omega) (by omega) (by exact Nat.le_trans hsz (by simp)) ?_)
              intro v' w2 hown' hgrow _
              have HP := hide (own_push (x := x) _ _ (unhide HK).1 (by simpa using hown') hgrow)
              clear hown' hgrow hown HK
              go_wp2
              go_roundw
              case rel => exact ⟨i + 1, j, _, by omega, by omega, by go_num, rfl, hide ⟨unhide HP, unhide HU⟩⟩
              case measure => simp [intOf]; omega
      · have hlt : y < x := List.not_le.1 hxy
        have HY : Hid (∀ z ∈ A.drop i, y ≤ z) := hide (fun z hz => List.le_trans (le_of_lt' hlt) (hdx.1 z hz))
        have HS := hide hy
        have t1 : Op.bytesLess (mkS x).toList (mkS y).toList = false := by rw [less_eq]; exact decide_eq_false (fun h => hxy (le_of_lt' h))
        have t2 : ((mkS x).toList == (mkS y).toList) = false := by rw [same_eq]; exact decide_eq_false (fun h => hxy (by rw [h]; exact le_refl' _))
        clear HA HB hdx hdy hx hy hlt hxy
        rcases List.eq_nil_or_concat S with hS | ⟨T, l, hS⟩
        · subst hS
          obtain ⟨ao, co, rfl, FF⟩ := (unhide HK).1.form (n := 0) rfl
          have HU := hide ((uinv_put (unhide HK).2.swap (unhide HIB) (unhide HS) (unhide HY) (fun l h => by cases h)).swap)
          have hown := (unhide HK).1.1
          have hsz := (unhide HK).1.2.size
          simp only [List.length_nil, List.map_nil] at hown
          clear FF hSl
          go_wp2
          go_quiet (fail)
          go_wp2_with (at_builtin; refine wpList_append_own _ rfl _ _ 22 rfl w.heap.size 9 i0 (.string ⟨#[]⟩) 1 16 Try.underlying22 hif hz0 hz1 hz2 rfl (by decide) _ _ _ rfl ((own_drewN hown _).alloc _) ⟨wr.heap.size, 0, none⟩ 1 1 [.string (mkS y)] rfl rfl (one_new _ _ _ _) (one_str _) (by unfold maxLen; omega) (by omega) (by exact Nat.le_trans hsz (by simp)) ?_)
          intro v' w2 hown' hgrow _
          have HP := hide (own_push (x := y) _ _ (unhide HK).1 (by simpa using hown') hgrow)
          clear hown' hgrow hown HK
          go_wp2
          go_roundw
          case rel => exact ⟨i, j + 1, _, by omega, by omega, rfl, by go_num, hide ⟨unhide HP, unhide HU⟩⟩
          case measure => simp [intOf]; omega
        · rw [List.concat_eq_append] at hS
          subst hS
          obtain ⟨ao, co, rfl, FF⟩ := (unhide HK).1.form (n := T.length + 1) (by simp)
          obtain ⟨g, rfl, hcl⟩ := FF T.length l (by simp)
          have hsz := (unhide HK).1.2.size
          simp only [List.length_append, List.length_cons, List.length_nil, Nat.zero_add] at hSl
          have hne0 : (((T.length + 1 : Nat) : Int) == 0) = false := beq_eq_false_iff_ne.2 (by omega)
          have hne1 : (((T.length : Nat) : Int) + 1 == 0) = false := beq_eq_false_iff_ne.2 (by omega)
          clear FF
          by_cases hls : l = y
          · subst hls
            have HU := hide ((uinv_keep (unhide HK).2.swap (unhide HS) (by simp)).swap)
            have HO := hide (own_same (unhide HK).1)
            clear HK
            go_wp2
            go_quiet (fail)
            go_wp2
            go_roundw
            case rel => exact ⟨i, j + 1, _, by omega, by omega, rfl, by go_num, hide ⟨unhide HO _, unhide HU⟩⟩
            case measure => simp [intOf]; omega
          · have tl : ((mkS l).toList == (mkS y).toList) = false := by rw [same_eq]; exact decide_eq_false hls
            have HU := hide ((uinv_put (unhide HK).2.swap (unhide HIB) (unhide HS) (unhide HY) (fun l' h => by simp at h; subst h; exact hls)).swap)
            have hown := (unhide HK).1.1
            simp only [List.length_append, List.length_cons, List.length_nil, Nat.zero_add] at hown
            clear hls
            go_wp2
            go_quiet (fail)
            go_wp2_with (at_builtin; refine wpList_append_own _ rfl _ _ 22 rfl w.heap.size 9 i0 (.string ⟨#[]⟩) 1 16 Try.underlying22 hif hz0 hz1 hz2 rfl (by decide) _ _ _ rfl ((own_drewN hown _).alloc _) ⟨wr.heap.size, 0, none⟩ 1 1 [.string (mkS y)] rfl rfl (one_new _ _ _ _) (one_str _) (by unfold maxLen; omega) (by omega) (by exact Nat.le_trans hsz (by simp)) ?_)
            intro v' w2 hown' hgrow _
            have HP := hide (own_push (x := y) _ _ (unhide HK).1 (by simpa using hown') hgrow)
            clear hown' hgrow hown HK
            go_wp2
            go_roundw
            case rel => exact ⟨i, j + 1, _, by omega, by omega, rfl, by go_num, hide ⟨unhide HP, unhide HU⟩⟩
            case measure => simp [intOf]; omega
    · obtain ⟨x, hx⟩ : ∃ x, A[i]? = some x := ⟨_, List.getElem?_eq_getElem hia⟩
      obtain ⟨ba, oa, rfl, hca⟩ := ((unhide HA).below (unhide HK).1.2) i x hx
      have hia2 : (i : Int) < (A.length : Int) := by omega
      have hdj : decide (B.length ≤ j) = true := decide_eq_true (by omega)
      have HY : Hid (∀ z ∈ B.drop j, x ≤ z) := hide (fun z hz => by rw [List.drop_eq_nil_of_le (by omega)] at hz; cases hz)
      have HS := hide hx
      clear HA HB hx
      rcases List.eq_nil_or_concat S with hS | ⟨T, l, hS⟩
      · subst hS
        obtain ⟨ao, co, rfl, FF⟩ := (unhide HK).1.form (n := 0) rfl
        have HU := hide (uinv_put (unhide HK).2 (unhide HIA) (unhide HS) (unhide HY) (fun l h => by cases h))
        have hown := (unhide HK).1.1
        have hsz := (unhide HK).1.2.size
        simp only [List.length_nil, List.map_nil] at hown
        clear FF hSl
        go_wp2
        go_quiet (fail)
        go_wp2_with (at_builtin; refine wpList_append_own _ rfl _ _ 22 rfl w.heap.size 9 i0 (.string ⟨#[]⟩) 1 16 Try.underlying22 hif hz0 hz1 hz2 rfl (by decide) _ _ _ rfl ((own_drewN hown _).alloc _) ⟨wr.heap.size, 0, none⟩ 1 1 [.string (mkS x)] rfl rfl (one_new _ _ _ _) (one_str _) (by unfold maxLen; omega) (by omega) (by exact Nat.le_trans hsz (by simp)) ?_)
        intro v' w2 hown' hgrow _
        have HP := hide (own_push (x := x) _ _ (unhide HK).1 (by simpa using hown') hgrow)
        clear hown' hgrow hown HK
        go_wp2
        go_roundw
        case rel => exact ⟨i + 1, j, _, by omega, by omega, by go_num, rfl, hide ⟨unhide HP, unhide HU⟩⟩
        case measure => simp [intOf]; omega
      · rw [List.concat_eq_append] at hS
        subst hS
        obtain ⟨ao, co, rfl, FF⟩ := (unhide HK).1.form (n := T.length + 1) (by simp)
        obtain ⟨g, rfl, hcl⟩ := FF T.length l (by simp)
        have hsz := (unhide HK).1.2.size
        simp only [List.length_append, List.length_cons, List.length_nil, Nat.zero_add] at hSl
        have hne0 : (((T.length + 1 : Nat) : Int) == 0) = false := beq_eq_false_iff_ne.2 (by omega)
        have hne1 : (((T.length : Nat) : Int) + 1 == 0) = false := beq_eq_false_iff_ne.2 (by omega)
        clear FF
        by_cases hls : l = x
        · subst hls
          have HU := hide (uinv_keep (unhide HK).2 (unhide HS) (by simp))
          have HO := hide (own_same (unhide HK).1)
          clear HK
          go_wp2
          go_quiet (fail)
          go_wp2
          go_roundw
          case rel => exact ⟨i + 1, j, _, by omega, by omega, by go_num, rfl, hide ⟨unhide HO _, unhide HU⟩⟩
          case measure => simp [intOf]; omega
        · have tl : ((mkS l).toList == (mkS x).toList) = false := by rw [same_eq]; exact decide_eq_false hls
          have HU := hide (uinv_put (unhide HK).2 (unhide HIA) (unhide HS) (unhide HY) (fun l' h => by simp at h; subst h; exact hls))
          have hown := (unhide HK).1.1
          simp only [List.length_append, List.length_cons, List.length_nil, Nat.zero_add] at hown
          clear hls
          go_wp2
          go_quiet (fail)
          go_wp2_with (at_builtin; refine wpList_append_own _ rfl _ _ 22 rfl w.heap.size 9 i0 (.string ⟨#[]⟩) 1 16 Try.underlying22 hif hz0 hz1 hz2 rfl (by decide) _ _ _ rfl ((own_drewN hown _).alloc _) ⟨wr.heap.size, 0, none⟩ 1 1 [.string (mkS x)] rfl rfl (one_new _ _ _ _) (one_str _) (by unfold maxLen; omega) (by omega) (by exact Nat.le_trans hsz (by simp)) ?_)
          intro v' w2 hown' hgrow _
          have HP := hide (own_push (x := x) _ _ (unhide HK).1 (by simpa using hown') hgrow)
          clear hown' hgrow hown HK
          go_wp2
          go_roundw
          case rel => exact ⟨i + 1, j, _, by omega, by omega, by go_num, rfl, hide ⟨unhide HP, unhide HU⟩⟩
          case measure => simp [intOf]; omega
  · by_cases hjb : j < B.length
    · obtain ⟨y, hy⟩ : ∃ x, B[j]? = some x := ⟨_, List.getElem?_eq_getElem hjb⟩
      obtain ⟨bb, ob, rfl, hcb⟩ := ((unhide HB).below (unhide HK).1.2) j y hy
      have hjb2 : (j : Int) < (B.length : Int) := by omega
      have hdj : decide (B.length ≤ j) = false := decide_eq_false (by omega)
      have hdi : decide (i < A.length) = false := decide_eq_false (by omega)
      have HY : Hid (∀ z ∈ A.drop i, y ≤ z) := hide (fun z hz => by rw [List.drop_eq_nil_of_le (by omega)] at hz; cases hz)
      have HS := hide hy
      clear HA HB hy
      rcases List.eq_nil_or_concat S with hS | ⟨T, l, hS⟩
      · subst hS
        obtain ⟨ao, co, rfl, FF⟩ := (unhide HK).1.form (n := 0) rfl
        have HU := hide ((uinv_put (unhide HK).2.swap (unhide HIB) (unhide HS) (unhide HY) (fun l h => by cases h)).swap)
        have hown := (unhide HK).1.1
        have hsz := (unhide HK).1.2.size
        simp only [List.length_nil, List.map_nil] at hown
        clear FF hSl
        go_wp2
        go_quiet (fail)
        go_wp2_with (at_builtin; refine wpList_append_own _ rfl _ _ 22 rfl w.heap.size 9 i0 (.string ⟨#[]⟩) 1 16 Try.underlying22 hif hz0 hz1 hz2 rfl (by decide) _ _ _ rfl ((own_drewN hown _).alloc _) ⟨wr.heap.size, 0, none⟩ 1 1 [.string (mkS y)] rfl rfl (one_new _ _ _ _) (one_str _) (by unfold maxLen; omega) (by omega) (by exact Nat.le_trans hsz (by simp)) ?_)
        intro v' w2 hown' hgrow _
        have HP := hide (own_push (x := y) _ _ (unhide HK).1 (by simpa using hown') hgrow)
        clear hown' hgrow hown HK
        go_wp2
        go_roundw
        case rel => exact ⟨i, j + 1, _, by omega, by omega, rfl, by go_num, hide ⟨unhide HP, unhide HU⟩⟩
        case measure => simp [intOf]; omega
      · rw [List.concat_eq_append] at hS
        subst hS
        obtain ⟨ao, co, rfl, FF⟩ := (unhide HK).1.form (n := T.length + 1) (by simp)
        obtain ⟨g, rfl, hcl⟩ := FF T.length l (by simp)
        have hsz := (unhide HK).1.2.size
        simp only [List.length_append, List.length_cons, List.length_nil, Nat.zero_add] at hSl
        have hne0 : (((T.length + 1 : Nat) : Int) == 0) = false := beq_eq_false_iff_ne.2 (by omega)
        have hne1 : (((T.length : Nat) : Int) + 1 == 0) = false := beq_eq_false_iff_ne.2 (by omega)
        clear FF
        by_cases hls : l = y
        · subst hls
          have HU := hide ((uinv_keep (unhide HK).2.swap (unhide HS) (by simp)).swap)
          have HO := hide (own_same (unhide HK).1)
          clear HK
          go_wp2
          go_quiet (fail)
          go_wp2
          go_roundw
          case rel => exact ⟨i, j + 1, _, by omega, by omega, rfl, by go_num, hide ⟨unhide HO _, unhide HU⟩⟩
          case measure => simp [intOf]; omega
        · have tl : ((mkS l).toList == (mkS y).toList) = false := by rw [same_eq]; exact decide_eq_false hls
          have HU := hide ((uinv_put (unhide HK).2.swap (unhide HIB) (unhide HS) (unhide HY) (fun l' h => by simp at h; subst h; exact hls)).swap)
          have hown := (unhide HK).1.1
          simp only [List.length_append, List.length_cons, List.length_nil, Nat.zero_add] at hown
          clear hls
          go_wp2
          go_quiet (fail)
          go_wp2_with (at_builtin; refine wpList_append_own _ rfl _ _ 22 rfl w.heap.size 9 i0 (.string ⟨#[]⟩) 1 16 Try.underlying22 hif hz0 hz1 hz2 rfl (by decide) _ _ _ rfl ((own_drewN hown _).alloc _) ⟨wr.heap.size, 0, none⟩ 1 1 [.string (mkS y)] rfl rfl (one_new _ _ _ _) (one_str _) (by unfold maxLen; omega) (by omega) (by exact Nat.le_trans hsz (by simp)) ?_)
          intro v' w2 hown' hgrow _
          have HP := hide (own_push (x := y) _ _ (unhide HK).1 (by simpa using hown') hgrow)
          clear hown' hgrow hown HK
          go_wp2
          go_roundw
          case rel => exact ⟨i, j + 1, _, by omega, by omega, rfl, by go_num, hide ⟨unhide HP, unhide HU⟩⟩
          case measure => simp [intOf]; omega
    · have HE := hide (uinv_end (unhide HK).2 (by omega) (by omega))
      go_wp2
      go_ret
      exact ⟨_, S, rfl, (unhide HK).1, unhide HE⟩
end Go.Proofs.Qxb6627683a
