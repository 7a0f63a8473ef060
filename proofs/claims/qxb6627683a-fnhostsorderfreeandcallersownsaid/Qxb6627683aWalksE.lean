/-
  The law FnHostsIsSortedSetAndJoinsOverCut (3).
-/
import Derived.Test.Qxb6627683aWalksD
namespace Go.Proofs.Qxb6627683a
open Go.RowKit Go.Sort

theorem events_len (a0 : Option Addr) (cap n : Nat) (L : List (List UInt8)) (w : World) (hn : L.length = n) (hl : n ≤ 65536) (hr : Row w a0 L) :
    Calls Try.prog 7 #[.slice a0 n cap] w fun e w' => e = .returned (.slice (some ⟨w.heap.size, 0, none⟩) n n) ∧ Evs w w' w.heap.size n L := by
  subst hn
  exact events_any a0 cap L w hl hr
theorem row_of_own {w : World} {base g cp : Nat} {S : List (List UInt8)} (h : w.ownsRow base 9 1 (.slice (some ⟨g, 0, none⟩) S.length cp) S.length (S.map encStr)) : Row w (some ⟨g, 0, none⟩) S := by
  intro j x hj
  have hl := (List.getElem?_eq_some_iff.1 hj).1
  refine ⟨g, 0, rfl, ?_⟩
  rw [Nat.zero_add, h.cellAt j (by omega), List.getElem?_map, hj]; rfl
/-- Hosts, of a new Log over new events. -/
theorem hosts_of {w w1 : World} {n : Nat} {L : List (List UInt8)} (h : Evs w w1 w.heap.size n L) (hn : L.length = n) (hl : n ≤ 65536) :
    Calls Try.prog 8 #[.pointer (some ⟨w1.heap.size, 0, none⟩)] (w1.alloc (.cells #[.slice (some ⟨w.heap.size, 0, none⟩) n n, .slice none 0 0, .map none, .slice none 0 0, .slice none 0 0, .int .u64 0] 41)) fun e w' =>
      ∃ g cp, e = .returned (.slice (some ⟨g, 0, none⟩) (hostsOf L).length cp) ∧ Row w' (some ⟨g, 0, none⟩) (hostsOf L) ∧ Below w.heap.size w w' := by
  subst hn
  refine (hosts_any _ w.heap.size L _ hl (by simp) (h.read.below ((Below.refl _ _).alloc (Nat.le_refl _) _))).mono ?_
  rintro e w' ⟨g, cp, rfl, hown, hbel⟩
  refine ⟨g, cp, rfl, row_of_own hown, ?_⟩
  have := h.2.size
  exact (h.2.alloc h.2.size _).trans (hbel.mono (by simp; omega))
theorem Row.shorter {w : World} {a : Option Addr} {L : List (List UInt8)} (h : Row w a L) (n : Nat) : Row w a (L.take n) := by
  intro j x hj
  refine h j x ?_
  have hl := (List.getElem?_eq_some_iff.1 hj).1
  rw [← hj, List.getElem?_take_of_lt (by simp at hl; omega)]
theorem Row.cut {w : World} {a : Option Addr} {L : List (List UInt8)} (h : Row w a L) (n : Nat) : Row w (a.map (fun x => x.add n)) (L.drop n) := by
  intro j x hj
  rw [List.getElem?_drop] at hj
  obtain ⟨b, off, rfl, hc⟩ := h (n + j) x hj
  exact ⟨b, off + n, by simp [Addr.add], by rw [show off + n + j = off + (n + j) by omega]; exact hc⟩

/-! ### the hits -/
theorem Try.info4 : (Try.prog.info? 4).map (fun i => (i.zero, i.size, i.bytes)) = some (some (.bool false), 1, 1) := by kernel_rfl
def hits (W L : List (List UInt8)) (k : Nat) : List Bool := W.map fun x => decide (x ∈ L.take k)
theorem hits_set {W L : List (List UInt8)} {k p : Nat} {x : List UInt8} (hW : Inc W) (hx : L[k]? = some x) (hp : W[p]? = some x) : (hits W L k).set p true = hits W L (k + 1) := by
  unfold hits
  have e : L.take (k + 1) = L.take k ++ [x] := by rw [List.take_add_one, hx]; rfl
  rw [e]
  apply List.ext_getElem?
  intro q
  rw [List.getElem?_set]
  have hpl := (List.getElem?_eq_some_iff.1 hp).1
  by_cases hq : p = q
  · subst hq
    simp only [if_true, List.length_map, hpl, List.getElem?_map, hp]
    simp
  · rw [if_neg hq, List.getElem?_map, List.getElem?_map]
    cases hw : W[q]? with
    | none => rfl
    | some y =>
      have hne : y ≠ x := fun e => hq (hW.idx hp (by rw [hw, e]))
      simp [hne]
theorem hits_all {W L : List (List UInt8)} (h : ∀ x, x ∈ W → x ∈ L) : hits W L L.length = List.replicate W.length true := by
  unfold hits
  rw [List.take_length]
  apply List.ext_getElem?
  intro q
  rw [List.getElem?_map]
  cases hw : W[q]? with
  | none => rw [List.getElem?_replicate, if_neg (by have := List.getElem?_eq_none_iff.1 hw; omega)]; rfl
  | some y =>
    have hql := (List.getElem?_eq_some_iff.1 hw).1
    rw [List.getElem?_replicate, if_pos hql]
    simp [h y (List.mem_of_getElem? hw)]
def HitR (w0 wr : World) (n : Nat) (F : List Bool) : Prop :=
  wr.ownsRow w0.heap.size 4 1 (.slice (some ⟨w0.heap.size, 0, none⟩) n n) n (F.map Value.bool) ∧ Below w0.heap.size w0 wr
theorem hit_store {w0 wr : World} {n p : Nat} {F : List Bool} (h : HitR w0 wr n F) : HitR w0 (wr.setCell ⟨w0.heap.size, p, none⟩ (.bool true)) n (F.set p true) := by
  refine ⟨?_, h.2.setCell (Nat.le_refl _) _⟩
  rw [List.map_set]
  exact (h.1.stored p _).1

theorem hits_start {w0 w1 : World} {q : Nat} {W L : List (List UInt8)} (hown : w1.ownsRow w0.heap.size 4 1 (.slice (some ⟨w0.heap.size, 0, none⟩) W.length W.length) W.length (madeCells #[.bool false] W.length).toList) (hg : (w0.drewN q).grownBy w1 none) : HitR w0 w1 W.length (hits W L 0) := by
  refine ⟨?_, (below_drewN (Below.refl _ _) q).grown hg (Nat.le_refl _) (fun _ h => by cases h)⟩
  rw [toList_madeCells_one] at hown
  have e : (hits W L 0).map Value.bool = List.replicate W.length (.bool false) := by
    unfold hits
    simp only [List.take_zero, List.not_mem_nil, decide_false, List.map_map]
    exact List.map_const' ..
  rw [e]; exact hown
theorem own_row {w wr : World} {ao : Option Addr} {n co : Nat} {S : List (List UInt8)} (h : Own w wr (.slice ao n co) S) (hn : S.length = n) : Row wr ao S := by
  obtain ⟨ao', co', hv, hf⟩ := h.form hn
  cases hv
  intro j x hj
  obtain ⟨g, hg, hc⟩ := hf j x hj
  exact ⟨g, 0, hg, by rw [Nat.zero_add]; exact hc⟩

set_option maxHeartbeats 1000000 in
set_option maxRecDepth 100000 in
theorem cutLaw_any (a0 : Option Addr) (cap : Nat) (i : Int) (n : Nat) (hin : 0 ≤ i → i = n) (L : List (List UInt8)) (w : World) (hl : L.length ≤ maxLen) (hlc : L.length ≤ cap) (hn : a0 = none → L.length = 0 ∧ cap = 0) (hr : Row w a0 L) :
    Calls Try.prog 3 #[.slice a0 L.length cap, .int .i64 i] w fun e w' => e = .returned (.bool true) ∧ Below w.heap.size w w' := by
  obtain ⟨i0, hi, hz0, hz1, hz2⟩ := info_parts Try.info4
  have HR := hide hr
  have HN := hide hn
  have HI := hide hin
  clear hr hn hin
  go_enter Try.func3, Try.ntmps3
  go_wp2_with fail
  refine (guard5_any _ _ _ L _ hl (unhide HR)).mono ?_
  rintro e w' ⟨⟨b, rfl⟩, rfl⟩
  cases b
  case false =>
    go_wp2
    go_ret
    exact ⟨rfl, Below.refl _ _⟩
  by_cases h16 : L.length ≤ 65536
  case neg =>
    go_wp2
    go_ret
    exact ⟨rfl, Below.refl _ _⟩
  go_wp2
  go_loop [5, 6] (fun t i => ∃ (m : Int) (k : Nat), k ≤ L.length ∧ i = .int .i64 k ∧ t = .int .i64 m) (fun _ i => L.length - (intOf i).toNat)
  case atStart => exact ⟨_, 0, Nat.zero_le _, rfl, rfl⟩
  obtain ⟨m, k, hk, rfl, rfl⟩ := hrel
  by_cases hlt : k < L.length
  · obtain ⟨x, hx⟩ : ∃ x, L[k]? = some x := ⟨_, List.getElem?_eq_getElem hlt⟩
    obtain ⟨b, off, rfl, hcell⟩ := unhide HR k x hx
    clear HR hx HN HI
    go_wp2
    · go_ret
      exact ⟨rfl, Below.refl _ _⟩
    · go_round
      case rel => exact ⟨_, k + 1, by omega, by go_num, rfl⟩
      case measure => simp [intOf]; omega
  obtain rfl : k = L.length := by omega
  clear hlt hk
  by_cases hi0 : i < 0
  · go_wp2
    go_ret
    exact ⟨rfl, Below.refl _ _⟩
  by_cases hi1 : (L.length : Int) < i
  · go_wp2
    go_ret
    exact ⟨rfl, Below.refl _ _⟩
  obtain rfl := unhide HI (by omega)
  clear HI
  have hnl : n ≤ L.length := by omega
  clear hi0 hi1
  go_wp2_with fail
  refine (events_len _ _ _ L _ rfl h16 (unhide HR)).mono ?_
  rintro e w1 ⟨rfl, E1⟩
  go_wp2_with fail
  refine (newLog_any _ _ _ _).mono ?_
  rintro e w2 ⟨rfl, rfl⟩
  go_wp2_with fail
  refine (hosts_of E1 rfl h16).mono ?_
  rintro e w3 ⟨g7, c7, rfl, R7, U3⟩
  clear E1
  have HR3 := hide ((unhide HR).below U3)
  have HW3 := hide R7
  clear R7
  go_wp2_with fail
  refine (events_len _ _ _ (L.take n) _ (by simp; omega) (by omega) ((unhide HR3).shorter n)).mono ?_
  rintro e w4 ⟨rfl, E4⟩
  go_wp2_with fail
  refine (newLog_any _ _ _ _).mono ?_
  rintro e w5 ⟨rfl, rfl⟩
  go_wp2_with fail
  refine (hosts_of E4 (by simp; omega) (by omega)).mono ?_
  rintro e w6 ⟨g8, c8, rfl, R8, V6⟩
  clear E4
  have U6 := U3.trans (V6.mono U3.size)
  have HR6 := hide ((unhide HR).below U6)
  have HW6 := hide ((unhide HW3).below V6)
  have HL6 := hide R8
  clear R8 V6 U3 HR3 HW3
  go_wp2_with fail
  case inl =>
    have HD : Hid (Row w6 a0 (L.drop n)) := hide (fun j x hj => by rw [List.drop_eq_nil_of_le (by omega)] at hj; simp at hj)
    refine (events_len _ _ _ (L.drop n) _ (by simp) (by omega) (unhide HD)).mono ?_
    rintro e w7 ⟨rfl, E7⟩
    clear HD
    go_wp2_with fail
    refine (newLog_any _ _ _ _).mono ?_
    rintro e w8 ⟨rfl, rfl⟩
    go_wp2_with fail
    refine (hosts_of E7 (by simp) (by omega)).mono ?_
    rintro e w9 ⟨g9, c9, rfl, R9, V9⟩
    clear E7
    have U9 := U6.trans (V9.mono U6.size)
    have HR9 := hide ((unhide HR).below U9)
    have HW9 := hide ((unhide HW6).below V9)
    have HL9 := hide ((unhide HL6).below V9)
    have HQ9 := hide R9
    clear R9 V9 U6 HR6 HW6 HL6
    have hWl : (hostsOf L).length ≤ 65536 := Nat.le_trans (hosts_le L) h16
    obtain ⟨W, hW⟩ : ∃ W, W = hostsOf L := ⟨_, rfl⟩
    obtain ⟨A, hA⟩ : ∃ A, A = hostsOf (L.take n) := ⟨_, rfl⟩
    obtain ⟨B, hB⟩ : ∃ B, B = hostsOf (L.drop n) := ⟨_, rfl⟩
    have hAl : A.length ≤ 65536 := by rw [hA]; exact Nat.le_trans (hosts_le _) (by simp; omega)
    have hBl : B.length ≤ 65536 := by rw [hB]; exact Nat.le_trans (hosts_le _) (by simp; omega)
    have hWi : Inc W := by rw [hW]; exact hosts_inc L
    have hAi : Inc A := by rw [hA]; exact hosts_inc _
    have hBi : Inc B := by rw [hB]; exact hosts_inc _
    have hWm : ∀ x, x ∈ W ↔ x ∈ L := by intro x; rw [hW]; exact mem_hosts L x
    have hABm : ∀ x, (x ∈ A ∨ x ∈ B) ↔ x ∈ L := by
      intro x
      rw [hA, hB, mem_hosts, mem_hosts, ← List.mem_append, List.take_append_drop]
    rw [← hW] at HW9 hWl ⊢
    rw [← hA] at HL9 ⊢
    rw [← hB] at HQ9 ⊢
    clear hW hA hB
    have HWI := hide hWi
    have HAI := hide hAi
    have HBI := hide hBi
    have HWM := hide hWm
    have HABM := hide hABm
    clear hWi hAi hBi hWm hABm
    go_wp2_with fail
    refine (inc_any _ _ W _ (by omega) (unhide HW9) (unhide HWI)).mono ?_
    rintro e w10 ⟨rfl, q10, rfl⟩
    go_wp2_with (at_make; refine wpList_make_full _ rfl _ _ 30 rfl (w9.drewN q10).heap.size 4 i0 (.bool false) 1 Try.underlying30 hi hz0 hz1 _ _ _ _ W.length rfl rfl rfl rfl (by rw [hz2]; omega) (by unfold maxLen; omega) (Nat.le_refl _) ?_)
    intro w11 hown hgrow
    have HH := hide (hits_start (L := L) hown hgrow)
    clear hown hgrow
    go_wp2
    go_loopw [11] (fun i wr => ∃ k : Nat, k ≤ L.length ∧ i = .int .i64 k ∧ Hid (HitR w9 wr W.length (hits W L k))) (fun i _ => L.length - (intOf i).toNat)
    case atStart => exact ⟨0, Nat.zero_le _, rfl, HH⟩
    clear HH
    obtain ⟨k, hk, rfl, HK⟩ := hrel
    by_cases hlt : k < L.length
    · obtain ⟨x, hx⟩ : ∃ x, L[k]? = some x := ⟨_, List.getElem?_eq_getElem hlt⟩
      obtain ⟨b, off, rfl, hcell⟩ := ((unhide HR9).below (unhide HK).2) k x hx
      obtain ⟨p, hp⟩ := List.mem_iff_getElem?.1 ((unhide HWM x).2 (List.mem_of_getElem? hx))
      have hpl := (List.getElem?_eq_some_iff.1 hp).1
      have hfz := (unhide HK).1.frozenAt p
      obtain ⟨y, hy⟩ : ∃ y, (hits W L k)[p]? = some y := ⟨_, List.getElem?_eq_getElem (by simp [hits]; omega)⟩
      have hg2 : wr.cell? ⟨w9.heap.size, p, none⟩ = some (.bool y) := by
        rw [(unhide HK).1.cellAt p (by omega), List.getElem?_map, hy]; rfl
      have HN1 : Hid (HitR w9 (wr.setCell ⟨w9.heap.size, p, none⟩ (.bool true)) W.length (hits W L (k + 1))) := hide (by rw [← hits_set (unhide HWI) hx hp]; exact hit_store (unhide HK))
      have HWr := hide ((unhide HW9).below (unhide HK).2)
      have HP := hide hp
      have hpi : (p : Int) < (W.length : Int) := by omega
      clear HK hx hp hy HR9 HL9 HQ9
      go_wp2_with fail
      refine (search_any _ _ W x p _ (by omega) (unhide HWr) (unhide HWI) (unhide HP)).mono ?_
      rintro e w'' ⟨rfl, rfl⟩
      go_wp2
      go_roundw
      case rel => exact ⟨k + 1, by omega, by go_num, HN1⟩
      case measure => simp [intOf]; omega
    obtain rfl : k = L.length := by omega
    rw [hits_all (fun x hx => (unhide HWM x).1 hx)] at HK
    have HC : Hid (∀ q, q < W.length → wr.cell? ⟨w9.heap.size, q, none⟩ = some (.bool true)) := hide (fun q hq => by rw [(unhide HK).1.cellAt q (by omega)]; simp [hq])
    have U11 := (unhide HK).2
    have HLr := hide ((unhide HL9).below U11)
    have HQr := hide ((unhide HQ9).below U11)
    have HWr := hide ((unhide HW9).below U11)
    have UU := U9.trans (U11.mono U9.size)
    clear HK HR9 HL9 HQ9 HW9 U11 U9 hlt hk
    go_wp2
    go_loop [13] (fun i => ∃ k : Nat, k ≤ W.length ∧ i = .int .i64 k) (fun i => W.length - (intOf i).toNat)
    case atStart => exact ⟨0, Nat.zero_le _, rfl⟩
    obtain ⟨k, hk, rfl⟩ := hrel
    by_cases hlt : k < W.length
    · have hc := unhide HC k hlt
      have hki : (k : Int) < (W.length : Int) := by omega
      clear HC
      go_wp2
      go_round
      case rel => exact ⟨k + 1, by omega, by go_num⟩
      case measure => simp [intOf]; omega
    clear HC
    go_wp2_with fail
    refine (union_any _ _ _ _ A B _ hAl hBl (unhide HLr) (unhide HQr) (unhide HAI) (unhide HBI)).mono ?_
    rintro e w12 ⟨v, S, rfl, O, hSi, hSm⟩
    obtain ⟨ao, co, rfl, FF⟩ := O.form (n := S.length) rfl
    have hSW : S = W := inc_ext hSi (unhide HWI) (fun x => by rw [hSm x, unhide HABM x, unhide HWM x])
    have HS := hide hSW
    have HSr := hide (own_row O rfl)
    have U12 := O.2
    have hSl : S.length ≤ 65536 := by rw [hSW]; omega
    clear FF O hSi hSm hSW
    go_wp2_with fail
    refine (same_any _ _ _ _ S W _ (by omega) (unhide HSr) ((unhide HWr).below U12) (unhide HS)).mono ?_
    rintro e w13 ⟨rfl, q13, rfl⟩
    go_wp2
    go_ret
    exact ⟨rfl, below_drewN (UU.trans (U12.mono UU.size)) _⟩
  case inr =>
    have HD := hide ((unhide HR6).cut n)
    generalize Option.map (fun x => x.add n) a0 = ar at HD ⊢
    refine (events_len _ _ _ (L.drop n) _ (by simp) (by omega) (unhide HD)).mono ?_
    rintro e w7 ⟨rfl, E7⟩
    clear HD
    go_wp2_with fail
    refine (newLog_any _ _ _ _).mono ?_
    rintro e w8 ⟨rfl, rfl⟩
    go_wp2_with fail
    refine (hosts_of E7 (by simp) (by omega)).mono ?_
    rintro e w9 ⟨g9, c9, rfl, R9, V9⟩
    clear E7
    have U9 := U6.trans (V9.mono U6.size)
    have HR9 := hide ((unhide HR).below U9)
    have HW9 := hide ((unhide HW6).below V9)
    have HL9 := hide ((unhide HL6).below V9)
    have HQ9 := hide R9
    clear R9 V9 U6 HR6 HW6 HL6
    have hWl : (hostsOf L).length ≤ 65536 := Nat.le_trans (hosts_le L) h16
    obtain ⟨W, hW⟩ : ∃ W, W = hostsOf L := ⟨_, rfl⟩
    obtain ⟨A, hA⟩ : ∃ A, A = hostsOf (L.take n) := ⟨_, rfl⟩
    obtain ⟨B, hB⟩ : ∃ B, B = hostsOf (L.drop n) := ⟨_, rfl⟩
    have hAl : A.length ≤ 65536 := by rw [hA]; exact Nat.le_trans (hosts_le _) (by simp; omega)
    have hBl : B.length ≤ 65536 := by rw [hB]; exact Nat.le_trans (hosts_le _) (by simp; omega)
    have hWi : Inc W := by rw [hW]; exact hosts_inc L
    have hAi : Inc A := by rw [hA]; exact hosts_inc _
    have hBi : Inc B := by rw [hB]; exact hosts_inc _
    have hWm : ∀ x, x ∈ W ↔ x ∈ L := by intro x; rw [hW]; exact mem_hosts L x
    have hABm : ∀ x, (x ∈ A ∨ x ∈ B) ↔ x ∈ L := by
      intro x
      rw [hA, hB, mem_hosts, mem_hosts, ← List.mem_append, List.take_append_drop]
    rw [← hW] at HW9 hWl ⊢
    rw [← hA] at HL9 ⊢
    rw [← hB] at HQ9 ⊢
    clear hW hA hB
    have HWI := hide hWi
    have HAI := hide hAi
    have HBI := hide hBi
    have HWM := hide hWm
    have HABM := hide hABm
    clear hWi hAi hBi hWm hABm
    go_wp2_with fail
    refine (inc_any _ _ W _ (by omega) (unhide HW9) (unhide HWI)).mono ?_
    rintro e w10 ⟨rfl, q10, rfl⟩
    go_wp2_with (at_make; refine wpList_make_full _ rfl _ _ 30 rfl (w9.drewN q10).heap.size 4 i0 (.bool false) 1 Try.underlying30 hi hz0 hz1 _ _ _ _ W.length rfl rfl rfl rfl (by rw [hz2]; omega) (by unfold maxLen; omega) (Nat.le_refl _) ?_)
    intro w11 hown hgrow
    have HH := hide (hits_start (L := L) hown hgrow)
    clear hown hgrow
    go_wp2
    go_loopw [11] (fun i wr => ∃ k : Nat, k ≤ L.length ∧ i = .int .i64 k ∧ Hid (HitR w9 wr W.length (hits W L k))) (fun i _ => L.length - (intOf i).toNat)
    case atStart => exact ⟨0, Nat.zero_le _, rfl, HH⟩
    clear HH
    obtain ⟨k, hk, rfl, HK⟩ := hrel
    by_cases hlt : k < L.length
    · obtain ⟨x, hx⟩ : ∃ x, L[k]? = some x := ⟨_, List.getElem?_eq_getElem hlt⟩
      obtain ⟨b, off, rfl, hcell⟩ := ((unhide HR9).below (unhide HK).2) k x hx
      obtain ⟨p, hp⟩ := List.mem_iff_getElem?.1 ((unhide HWM x).2 (List.mem_of_getElem? hx))
      have hpl := (List.getElem?_eq_some_iff.1 hp).1
      have hfz := (unhide HK).1.frozenAt p
      obtain ⟨y, hy⟩ : ∃ y, (hits W L k)[p]? = some y := ⟨_, List.getElem?_eq_getElem (by simp [hits]; omega)⟩
      have hg2 : wr.cell? ⟨w9.heap.size, p, none⟩ = some (.bool y) := by
        rw [(unhide HK).1.cellAt p (by omega), List.getElem?_map, hy]; rfl
      have HN1 : Hid (HitR w9 (wr.setCell ⟨w9.heap.size, p, none⟩ (.bool true)) W.length (hits W L (k + 1))) := hide (by rw [← hits_set (unhide HWI) hx hp]; exact hit_store (unhide HK))
      have HWr := hide ((unhide HW9).below (unhide HK).2)
      have HP := hide hp
      have hpi : (p : Int) < (W.length : Int) := by omega
      clear HK hx hp hy HR9 HL9 HQ9
      go_wp2_with fail
      refine (search_any _ _ W x p _ (by omega) (unhide HWr) (unhide HWI) (unhide HP)).mono ?_
      rintro e w'' ⟨rfl, rfl⟩
      go_wp2
      go_roundw
      case rel => exact ⟨k + 1, by omega, by go_num, HN1⟩
      case measure => simp [intOf]; omega
    obtain rfl : k = L.length := by omega
    rw [hits_all (fun x hx => (unhide HWM x).1 hx)] at HK
    have HC : Hid (∀ q, q < W.length → wr.cell? ⟨w9.heap.size, q, none⟩ = some (.bool true)) := hide (fun q hq => by rw [(unhide HK).1.cellAt q (by omega)]; simp [hq])
    have U11 := (unhide HK).2
    have HLr := hide ((unhide HL9).below U11)
    have HQr := hide ((unhide HQ9).below U11)
    have HWr := hide ((unhide HW9).below U11)
    have UU := U9.trans (U11.mono U9.size)
    clear HK HR9 HL9 HQ9 HW9 U11 U9 hlt hk
    go_wp2
    go_loop [13] (fun i => ∃ k : Nat, k ≤ W.length ∧ i = .int .i64 k) (fun i => W.length - (intOf i).toNat)
    case atStart => exact ⟨0, Nat.zero_le _, rfl⟩
    obtain ⟨k, hk, rfl⟩ := hrel
    by_cases hlt : k < W.length
    · have hc := unhide HC k hlt
      have hki : (k : Int) < (W.length : Int) := by omega
      clear HC
      go_wp2
      go_round
      case rel => exact ⟨k + 1, by omega, by go_num⟩
      case measure => simp [intOf]; omega
    clear HC
    go_wp2_with fail
    refine (union_any _ _ _ _ A B _ hAl hBl (unhide HLr) (unhide HQr) (unhide HAI) (unhide HBI)).mono ?_
    rintro e w12 ⟨v, S, rfl, O, hSi, hSm⟩
    obtain ⟨ao, co, rfl, FF⟩ := O.form (n := S.length) rfl
    have hSW : S = W := inc_ext hSi (unhide HWI) (fun x => by rw [hSm x, unhide HABM x, unhide HWM x])
    have HS := hide hSW
    have HSr := hide (own_row O rfl)
    have U12 := O.2
    have hSl : S.length ≤ 65536 := by rw [hSW]; omega
    clear FF O hSi hSm hSW
    go_wp2_with fail
    refine (same_any _ _ _ _ S W _ (by omega) (unhide HSr) ((unhide HWr).below U12) (unhide HS)).mono ?_
    rintro e w13 ⟨rfl, q13, rfl⟩
    go_wp2
    go_ret
    exact ⟨rfl, below_drewN (UU.trans (U12.mono UU.size)) _⟩
end Go.Proofs.Qxb6627683a
