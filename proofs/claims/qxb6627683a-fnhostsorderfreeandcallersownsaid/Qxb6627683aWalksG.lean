/-
  The law FnHostsOrderFreeAndCallersOwn (4).
-/
import Derived.Test.Qxb6627683aWalksF
namespace Go.Proofs.Qxb6627683a
open Go.RowKit Go.Sort

theorem hrel_store0 {w wr : World} {n : Nat} {S : List (List UInt8)} {k : Nat} {x : List UInt8} (h : HRel w wr n S) : HRel w (wr.setCell ⟨w.heap.size, k, none⟩ (.string (mkS x))) n (S.set k x) := by
  refine ⟨?_, h.2.setCell (Nat.le_refl _) _⟩
  rw [List.map_set]
  exact (h.1.stored k (.string (mkS x))).1

set_option maxHeartbeats 2000000 in
set_option maxRecDepth 100000 in
theorem ownLaw_any (a0 : Option Addr) (cap : Nat) (i : Int) (n : Nat) (hin : 0 ≤ i → i = n) (L : List (List UInt8)) (w : World) (hl : L.length ≤ maxLen) (hr : Row w a0 L) :
    Calls Try.prog 4 #[.slice a0 L.length cap, .int .i64 i] w fun e w' => e = .returned (.bool true) ∧ Below w.heap.size w w' := by
  obtain ⟨i9, hi9, hz90, hz91, hz92⟩ := info_parts Try.info9
  have HR := hide hr
  have HI := hide hin
  clear hr hin
  go_enter Try.func4, Try.ntmps4
  go_wp2_with fail
  refine (guard13_long _ _ _ L _ hl (unhide HR)).mono ?_
  rintro e w' ⟨HG, rfl⟩
  rcases HG with rfl | ⟨rfl, hlen⟩
  · go_wp2
    go_ret
    exact ⟨rfl, Below.refl _ _⟩
  have HLEN := hide hlen
  clear hlen
  by_cases h16 : L.length ≤ 65536
  case neg =>
    go_wp2
    go_ret
    exact ⟨rfl, Below.refl _ _⟩
  go_wp2
  go_loop [5, 6] (fun t i => ∃ (m : Int) (k : Nat), k ≤ L.length ∧ i = .int .i64 k ∧ t = .int .i64 m) (fun _ i => L.length - (intOf i).toNat)
  case atStart => exact ⟨_, 0, Nat.zero_le _, rfl, rfl⟩
  obtain ⟨m, k, hk, rfl, rfl⟩ := hrel
  by_cases hlt : k < L.length
  · obtain ⟨x, hx⟩ : ∃ x, L[k]? = some x := ⟨_, List.getElem?_eq_getElem hlt⟩
    obtain ⟨b, off, rfl, hcell⟩ := unhide HR k x hx
    clear HR hx HI
    go_wp2
    · go_ret
      exact ⟨rfl, Below.refl _ _⟩
    · go_round
      case rel => exact ⟨_, k + 1, by omega, by go_num, rfl⟩
      case measure => simp [intOf]; omega
  obtain rfl : k = L.length := by omega
  clear hlt hk
  by_cases hi0 : i < 0
  · go_wp2
    go_ret
    exact ⟨rfl, Below.refl _ _⟩
  by_cases hi1 : (L.length : Int) < i
  · go_wp2
    go_ret
    exact ⟨rfl, Below.refl _ _⟩
  obtain rfl := unhide HI (by omega)
  clear HI
  have hnl : n ≤ L.length := by omega
  clear hi0 hi1
  go_wp2
  go_loop [8, 9, 10] (fun lo hi i => ∃ (k : Nat) (x y : List UInt8), k ≤ L.length ∧ i = .int .i64 k ∧ lo = .string (mkS x) ∧ hi = .string (mkS y) ∧ Hid (0 < k → MM (L.take k) x y)) (fun _ _ i => L.length - (intOf i).toNat)
  case atStart => exact ⟨0, [], [], Nat.zero_le _, rfl, rfl, rfl, hide (fun h => absurd h (by omega))⟩
  obtain ⟨k, lo, hi, hk, rfl, rfl, rfl, HM⟩ := hrel
  by_cases hlt : k < L.length
  · obtain ⟨x, hx⟩ : ∃ x, L[k]? = some x := ⟨_, List.getElem?_eq_getElem hlt⟩
    obtain ⟨b, off, rfl, hcell⟩ := unhide HR k x hx
    have htk : L.take (k + 1) = L.take k ++ [x] := by rw [List.take_add_one, hx]; rfl
    have hki : (k : Int) < (L.length : Int) := by omega
    by_cases hk0 : k = 0
    · subst hk0
      rw [Nat.add_zero] at hcell
      have HN : Hid (MM (L.take (0 + 1)) x x) := hide (by rw [htk, List.take_zero]; exact mm_first x)
      clear HR hx htk HM
      go_wp2
      go_round
      case rel => exact ⟨1, x, x, by omega, by go_num, rfl, rfl, hide (fun _ => unhide HN)⟩
      case measure => simp [intOf]; omega
    · have hkb : ((k : Int) == 0) = false := beq_eq_false_iff_ne.2 (by omega)
      have hM := unhide HM (by omega)
      have HNX : Hid (∀ lo' hi', ((x < lo ∧ lo' = x) ∨ (¬ x < lo ∧ lo' = lo)) → ((hi < x ∧ hi' = x) ∨ (¬ hi < x ∧ hi' = hi)) → MM (L.take (k + 1)) lo' hi') := hide (fun lo' hi' h1 h2 => by rw [htk]; exact mm_next hM h1 h2)
      clear HR hx htk HM hM hk0
      by_cases hxlo : x < lo
      · have t1 : Op.bytesLess (mkS x).toList (mkS lo).toList = true := by rw [less_eq]; exact decide_eq_true hxlo
        have HXL := hide hxlo
        clear hxlo
        by_cases hxhi : x < hi
        · have t2 : Op.bytesLess (mkS x).toList (mkS hi).toList = true := by rw [less_eq]; exact decide_eq_true hxhi
          have HN := hide (unhide HNX x hi (.inl ⟨unhide HXL, rfl⟩) (.inr ⟨fun h => lt_irrefl' _ (lt_of_le_of_lt' (le_of_lt' hxhi) h), rfl⟩))
          clear HNX hxhi HXL
          go_wp2
          go_round
          case rel => exact ⟨k + 1, x, hi, by omega, by go_num, rfl, rfl, hide (fun _ => unhide HN)⟩
          case measure => simp [intOf]; omega
        · have t2 : Op.bytesLess (mkS x).toList (mkS hi).toList = false := by rw [less_eq]; exact decide_eq_false hxhi
          by_cases hxe : x = hi
          · have t3 : ((mkS x).toList == (mkS hi).toList) = true := by rw [same_eq]; exact decide_eq_true hxe
            have HN := hide (unhide HNX x hi (.inl ⟨unhide HXL, rfl⟩) (.inr ⟨fun h => by rw [hxe] at h; exact lt_irrefl' _ h, rfl⟩))
            clear HNX hxhi hxe HXL
            go_wp2
            go_round
            case rel => exact ⟨k + 1, x, hi, by omega, by go_num, rfl, rfl, hide (fun _ => unhide HN)⟩
            case measure => simp [intOf]; omega
          · have t3 : ((mkS x).toList == (mkS hi).toList) = false := by rw [same_eq]; exact decide_eq_false hxe
            have HN := hide (unhide HNX x x (.inl ⟨unhide HXL, rfl⟩) (.inl ⟨lt_of_le_of_ne' (List.not_lt.1 hxhi) (Ne.symm hxe), rfl⟩))
            clear HNX hxhi hxe HXL
            go_wp2
            go_round
            case rel => exact ⟨k + 1, x, x, by omega, by go_num, rfl, rfl, hide (fun _ => unhide HN)⟩
            case measure => simp [intOf]; omega
      · have t1 : Op.bytesLess (mkS x).toList (mkS lo).toList = false := by rw [less_eq]; exact decide_eq_false hxlo
        have HXL := hide hxlo
        clear hxlo
        by_cases hxhi : x < hi
        · have t2 : Op.bytesLess (mkS x).toList (mkS hi).toList = true := by rw [less_eq]; exact decide_eq_true hxhi
          have HN := hide (unhide HNX lo hi (.inr ⟨unhide HXL, rfl⟩) (.inr ⟨fun h => lt_irrefl' _ (lt_of_le_of_lt' (le_of_lt' hxhi) h), rfl⟩))
          clear HNX hxhi HXL
          go_wp2
          go_round
          case rel => exact ⟨k + 1, lo, hi, by omega, by go_num, rfl, rfl, hide (fun _ => unhide HN)⟩
          case measure => simp [intOf]; omega
        · have t2 : Op.bytesLess (mkS x).toList (mkS hi).toList = false := by rw [less_eq]; exact decide_eq_false hxhi
          by_cases hxe : x = hi
          · have t3 : ((mkS x).toList == (mkS hi).toList) = true := by rw [same_eq]; exact decide_eq_true hxe
            have HN := hide (unhide HNX lo hi (.inr ⟨unhide HXL, rfl⟩) (.inr ⟨fun h => by rw [hxe] at h; exact lt_irrefl' _ h, rfl⟩))
            clear HNX hxhi hxe HXL
            go_wp2
            go_round
            case rel => exact ⟨k + 1, lo, hi, by omega, by go_num, rfl, rfl, hide (fun _ => unhide HN)⟩
            case measure => simp [intOf]; omega
          · have t3 : ((mkS x).toList == (mkS hi).toList) = false := by rw [same_eq]; exact decide_eq_false hxe
            have HN := hide (unhide HNX lo x (.inr ⟨unhide HXL, rfl⟩) (.inl ⟨lt_of_le_of_ne' (List.not_lt.1 hxhi) (Ne.symm hxe), rfl⟩))
            clear HNX hxhi hxe HXL
            go_wp2
            go_round
            case rel => exact ⟨k + 1, lo, x, by omega, by go_num, rfl, rfl, hide (fun _ => unhide HN)⟩
            case measure => simp [intOf]; omega
  obtain rfl : k = L.length := by omega
  rw [List.take_length] at HM
  clear hlt hk
  go_wp2_with (at_make; refine wpList_make_own _ rfl _ _ 22 rfl w'.heap.size 9 i9 (.string ⟨#[]⟩) 1 Try.underlying22 hi9 hz90 hz91 _ _ _ L.length rfl rfl rfl (by rw [hz92]; omega) (by unfold maxLen; omega) (Nat.le_refl _) ?_)
  intro w1 hown hgrow
  have HO : Hid (Own w' w1 (.slice (some ⟨w'.heap.size, 0, none⟩) 0 L.length) ((L.take n).drop n)) := hide (by rw [rot_start]; exact ⟨hown, (Below.refl _ _).grown hgrow (Nat.le_refl _) (fun _ h => by cases h)⟩)
  clear hown hgrow
  go_wp2
  go_loopw [11, 12] (fun v t wr => ∃ k : Nat, n ≤ k ∧ k ≤ L.length ∧ t = .int .i64 k ∧ Hid (Own w' wr v ((L.take k).drop n))) (fun _ t _ => L.length - (intOf t).toNat)
  case atStart => exact ⟨n, Nat.le_refl _, hnl, rfl, HO⟩
  clear HO
  obtain ⟨k, hnk, hk, rfl, HK⟩ := hrel
  by_cases hlt : k < L.length
  · obtain ⟨x, hx⟩ : ∃ x, L[k]? = some x := ⟨_, List.getElem?_eq_getElem hlt⟩
    obtain ⟨b, off, rfl, hcell⟩ := ((unhide HR).below (unhide HK).2) k x hx
    have hki : (k : Int) < (L.length : Int) := by omega
    have HT := hide (rot_one hnk hx)
    have hSl : ((L.take k).drop n).length ≤ 65536 := by simp; omega
    obtain ⟨S, hS⟩ : ∃ S, S = (L.take k).drop n := ⟨_, rfl⟩
    rw [← hS] at HK HT hSl
    have hown := (unhide HK).1
    have hsz := (unhide HK).2.size
    clear HR hx hS HM HLEN
    go_wp2_with (at_builtin; refine wpList_append_own _ rfl _ _ 22 rfl w'.heap.size 9 i9 (.string ⟨#[]⟩) 1 16 Try.underlying22 hi9 hz90 hz91 hz92 rfl (by decide) _ _ _ rfl (hown.alloc _) ⟨wr.heap.size, 0, none⟩ 1 1 [.string (mkS x)] rfl rfl (one_new0 _ _ _) (one_str _) (by unfold maxLen; omega) (by omega) (by exact Nat.le_trans hsz (by simp)) ?_)
    intro v' w2 hown' hgrow _
    have HP := hide (own_push0 (x := x) _ (unhide HK) (by simpa using hown') hgrow)
    clear hown' hgrow hown HK
    go_wp2
    go_roundw
    case rel => exact ⟨k + 1, by omega, by omega, by go_num, by rw [unhide HT]; exact HP⟩
    case measure => simp [intOf]; omega
  obtain rfl : k = L.length := by omega
  rw [List.take_length] at HK
  clear hlt hk hnk
  have HO : Hid (Own w' wr _ (L.drop n ++ L.take 0)) := hide (by rw [List.take_zero, List.append_nil]; exact unhide HK)
  clear HK
  go_wp2
  go_loopw [11, 13] (fun v t wr => ∃ k : Nat, k ≤ n ∧ t = .int .i64 k ∧ Hid (Own w' wr v (L.drop n ++ L.take k))) (fun _ t _ => n - (intOf t).toNat)
  case atStart => exact ⟨0, Nat.zero_le _, rfl, HO⟩
  clear HO
  obtain ⟨k, hk, rfl, HK⟩ := hrel
  by_cases hlt : k < n
  · obtain ⟨x, hx⟩ : ∃ x, L[k]? = some x := ⟨_, List.getElem?_eq_getElem (by omega)⟩
    obtain ⟨b, off, rfl, hcell⟩ := ((unhide HR).below (unhide HK).2) k x hx
    have hki : (k : Int) < (L.length : Int) := by omega
    have HT := hide (rot_two (s := n) hx)
    have hSl : (L.drop n ++ L.take k).length ≤ 65536 := by simp; omega
    obtain ⟨S, hS⟩ : ∃ S, S = L.drop n ++ L.take k := ⟨_, rfl⟩
    rw [← hS] at HK HT hSl
    have hown := (unhide HK).1
    have hsz := (unhide HK).2.size
    clear HR hx hS HM HLEN
    go_wp2_with (at_builtin; refine wpList_append_own _ rfl _ _ 22 rfl w'.heap.size 9 i9 (.string ⟨#[]⟩) 1 16 Try.underlying22 hi9 hz90 hz91 hz92 rfl (by decide) _ _ _ rfl (hown.alloc _) ⟨wr.heap.size, 0, none⟩ 1 1 [.string (mkS x)] rfl rfl (one_new0 _ _ _) (one_str _) (by unfold maxLen; omega) (by omega) (by exact Nat.le_trans hsz (by simp)) ?_)
    intro v' w2 hown' hgrow _
    have HP := hide (own_push0 (x := x) _ (unhide HK) (by simpa using hown') hgrow)
    clear hown' hgrow hown HK
    go_wp2
    go_roundw
    case rel => exact ⟨k + 1, by omega, by go_num, by rw [unhide HT]; exact HP⟩
    case measure => simp [intOf]; omega
  obtain rfl : k = n := by omega
  clear hlt hk
  obtain ⟨ao, co, rfl, FF⟩ := (unhide HK).form (n := L.length) (rot_length L k)
  have HRot := hide (own_row (unhide HK) (rot_length L k))
  have U0 := (unhide HK).2
  have HR0 := hide ((unhide HR).below U0)
  clear FF HK HR
  go_wp2_with fail
  refine (events_len _ _ _ L _ rfl h16 (unhide HR0)).mono ?_
  rintro e w1 ⟨rfl, E1⟩
  clear HR0
  go_wp2_with fail
  refine (newLog_any _ _ _ _).mono ?_
  rintro e w2 ⟨rfl, hw2⟩
  have hL2 : w2.cell? ⟨w1.heap.size, 0, none⟩ = some (.slice (some ⟨wr.heap.size, 0, none⟩) L.length L.length) := by rw [hw2]; simp
  have hV2 : Below w1.heap.size w1 w2 := by rw [hw2]; exact (Below.refl _ _).alloc (Nat.le_refl _) _
  have hE2 : EvR w2 wr.heap.size L := E1.read.below hV2
  have hB2 : w1.heap.size < w2.heap.size := World.block_lt_of_cell? _ _ hL2
  have W2 : Below wr.heap.size wr w2 := E1.2.trans (hV2.mono E1.2.size)
  have U2 := U0.trans (W2.mono U0.size)
  have HRot2 := hide ((unhide HRot).below W2)
  have HE2 := hide hE2
  have HL2 := hide hL2
  clear hw2 hV2 hE2 hL2 E1 HRot W2 U0
  go_wp2_with fail
  refine (hosts_any _ _ L _ h16 (unhide HL2) (unhide HE2)).mono ?_
  rintro e w3 ⟨g, c15, rfl, hown3, U3⟩
  have hgl := hown3.lt g rfl
  obtain ⟨H, hH⟩ : ∃ H, H = hostsOf L := ⟨_, rfl⟩
  have hHl : H.length ≤ 65536 := by rw [hH]; exact Nat.le_trans (hosts_le L) h16
  rw [← hH] at hown3 ⊢
  have HH := hide hH
  have HO3 := hide hown3
  clear hH hown3
  go_wp2_with (at_make; refine wpList_make_full _ rfl _ _ 22 rfl w3.heap.size 9 i9 (.string ⟨#[]⟩) 1 Try.underlying22 hi9 hz90 hz91 _ _ _ _ H.length rfl rfl rfl rfl (by rw [hz92]; omega) (by unfold maxLen; omega) (Nat.le_refl _) ?_)
  intro w4 hown4 hgrow4
  have HS4 : Hid (HRel w3 w4 H.length (part H.length H 0)) := hide (by rw [show part H.length H 0 = List.replicate H.length [] by simp [part]]; exact hrel_start (by simpa using hown4) ((Below.refl _ _).grown hgrow4 (Nat.le_refl _) (fun _ h => by cases h)))
  clear hown4 hgrow4
  go_wp2
  go_loopw [17] (fun i w5 => ∃ k : Nat, k ≤ H.length ∧ i = .int .i64 k ∧ Hid (HRel w3 w5 H.length (part H.length H k))) (fun i _ => H.length - (intOf i).toNat)
  case atStart => exact ⟨0, Nat.zero_le _, rfl, HS4⟩
  clear HS4
  obtain ⟨q, hq, rfl, HK⟩ := hrel
  by_cases hlt : q < H.length
  · obtain ⟨x, hx⟩ : ∃ x, H[q]? = some x := ⟨_, List.getElem?_eq_getElem hlt⟩
    have h3 : w3.cell? ⟨g, q, none⟩ = some (.string (mkS x)) := by rw [(unhide HO3).cellAt q (by omega), List.getElem?_map, hx]; rfl
    have hcF : wr.cell? ⟨g, q, none⟩ = some (.string (mkS x)) := by rw [← h3]; exact (unhide HK).2.cell (p := ⟨g, q, none⟩) hgl.2
    have hfz := (unhide HK).1.frozenAt q
    obtain ⟨y, hy⟩ : ∃ y, (part H.length H q)[q]? = some y := ⟨_, List.getElem?_eq_getElem (by rw [part_length _ _ hq]; omega)⟩
    have hg2 : wr.cell? ⟨w3.heap.size, q, none⟩ = some (.string (mkS y)) := by
      rw [(unhide HK).1.cellAt q (by omega), List.getElem?_map, hy]; rfl
    have HNX : Hid (HRel w3 (wr.setCell ⟨w3.heap.size, q, none⟩ (.string (mkS x))) H.length (part H.length H (q + 1))) := hide (by rw [← part_set hx]; exact hrel_store0 (unhide HK))
    have hqi : (q : Int) < (H.length : Int) := by omega
    clear HK hx hy h3 HO3 HRot2 HE2 HL2 HH HM HLEN U2 U3
    go_wp2
    go_roundw
    case rel => exact ⟨q + 1, by omega, by go_num, HNX⟩
    case measure => simp [intOf]; omega
  obtain rfl : q = H.length := by omega
  rw [part_end] at HK
  have HF : Hid (FRel w2 wr g w3.heap.size H 0) := hide (by
    refine ⟨fun j x _ hx => ?_, row_of_own (unhide HK).1, U3.trans ((unhide HK).2.mono U3.size)⟩
    have hjl := (List.getElem?_eq_some_iff.1 hx).1
    have h3 : w3.cell? ⟨g, j, none⟩ = some (.string (mkS x)) := by rw [(unhide HO3).cellAt j (by omega), List.getElem?_map, hx]; rfl
    refine ⟨by rw [← h3]; exact (unhide HK).2.cell (p := ⟨g, j, none⟩) hgl.2, ?_⟩
    rw [← (unhide HO3).frozenAt j]
    exact (unhide HK).2.frozen (p := ⟨g, j, none⟩) hgl.2)
  clear HK HO3 U3 hlt hq
  go_wp2
  go_loopw [18] (fun i w6 => ∃ k : Nat, k ≤ H.length ∧ i = .int .i64 k ∧ Hid (FRel w2 w6 g w3.heap.size H k)) (fun i _ => H.length - (intOf i).toNat)
  case atStart => exact ⟨0, Nat.zero_le _, rfl, HF⟩
  clear HF
  obtain ⟨q, hq, rfl, HK⟩ := hrel
  by_cases hlt : q < H.length
  · obtain ⟨x, hx⟩ : ∃ x, H[q]? = some x := ⟨_, List.getElem?_eq_getElem hlt⟩
    obtain ⟨hcF, hfz⟩ := (unhide HK).1 q x (Nat.le_refl _) hx
    have hms : (mkS x).size ≤ 1048576 := by
      rw [mkS_size]
      exact unhide HLEN x ((mem_hosts L x).1 (by rw [← unhide HH]; exact List.mem_of_getElem? hx))
    have HNX : Hid (∀ v, FRel w2 (wr.setCell ⟨g, q, none⟩ v) g w3.heap.size H (q + 1)) := hide (fun v => frel_next v (unhide HK) hgl.1 (by have := hgl.2; omega))
    have hqi : (q : Int) < (H.length : Int) := by omega
    clear HK hx HRot2 HE2 HL2 HH HM HLEN U2
    go_wp2
    go_roundw
    case rel => exact ⟨q + 1, by omega, by go_num, hide (unhide HNX _)⟩
    case measure => simp [intOf]; omega
  obtain rfl : q = H.length := by omega
  obtain ⟨_, hSv, U6⟩ := unhide HK
  have HSv := hide hSv
  have hL6 : wr.cell? ⟨w1.heap.size, 0, none⟩ = _ := (U6.cell (p := ⟨w1.heap.size, 0, none⟩) hB2).trans (unhide HL2)
  have HE6 := hide ((unhide HE2).below U6)
  have HRot6 := hide ((unhide HRot2).below U6)
  have HL6 := hide hL6
  have UU6 := U2.trans (U6.mono U2.size)
  clear HK hSv U6 hL6 HE2 HL2 HRot2 U2 hlt hq HLEN
  go_wp2_with fail
  refine (hosts_any _ _ L _ h16 (unhide HL6) (unhide HE6)).mono ?_
  rintro e w7 ⟨g19, c19, rfl, hown7, U7⟩
  rw [← unhide HH] at hown7 ⊢
  have HA7 := hide (row_of_own hown7)
  have HSv7 := hide ((unhide HSv).below U7)
  have HRot7 := hide ((unhide HRot6).below U7)
  have UU7 := UU6.trans (U7.mono UU6.size)
  clear hown7 HSv HRot6 HE6 HL6 U7 UU6
  go_wp2_with fail
  refine (events_len _ _ _ (L.drop k ++ L.take k) _ (rot_length L k) h16 (unhide HRot7)).mono ?_
  rintro e w8 ⟨rfl, E8⟩
  go_wp2_with fail
  refine (newLog_any _ _ _ _).mono ?_
  rintro e w9 ⟨rfl, rfl⟩
  go_wp2_with fail
  refine (hosts_of E8 (rot_length L k) h16).mono ?_
  rintro e w10 ⟨g20, c20, rfl, R20, V10⟩
  have hrot : hostsOf (L.drop k ++ L.take k) = H := by rw [hosts_of_perm (rot_perm L k), ← unhide HH]
  rw [hrot] at R20 ⊢
  have HB10 := hide R20
  have HA10 := hide ((unhide HA7).below V10)
  have HSv10 := hide ((unhide HSv7).below V10)
  have UU10 := UU7.trans (V10.mono UU7.size)
  clear hrot R20 V10 E8 HA7 HSv7 HRot7 UU7
  go_wp2_with fail
  refine (same_any _ _ _ _ H H _ (by omega) (unhide HA10) (unhide HSv10) rfl).mono ?_
  rintro e w11 ⟨rfl, q11, rfl⟩
  go_wp2_with fail
  refine (same_any _ _ _ _ H H _ (by omega) ((unhide HB10).drewN q11) ((unhide HSv10).drewN q11) rfl).mono ?_
  rintro e w12 ⟨rfl, q12, rfl⟩
  clear HB10 HSv10
  by_cases hL0 : L.length = 0
  · have hH0 : H.length = 0 := by rw [unhide HH]; have := hosts_le L; omega
    rw [hH0, hL0]
    clear HA10 hL0 hH0
    go_wp2
    go_ret
    exact ⟨rfl, below_drewN UU10 _⟩
  · obtain ⟨mm, hmm, hlo, hhi⟩ := mm_hosts (unhide HM (by omega))
    rw [← unhide HH] at hmm hlo hhi
    obtain ⟨b1, o1, hab1, hc1⟩ := unhide HA10 0 lo hlo
    obtain ⟨b2, o2, hab2, hc2⟩ := unhide HA10 mm hi hhi
    simp only [Option.some.injEq, Addr.mk.injEq, and_true] at hab1 hab2
    obtain ⟨rfl, rfl⟩ := hab1
    obtain ⟨rfl, rfl⟩ := hab2
    rw [Nat.zero_add] at hc1 hc2
    have hLb : ((L.length : Int) == 0) = false := beq_eq_false_iff_ne.2 (by omega)
    rw [hmm] at hHl ⊢
    clear HA10 hL0 hlo hhi HM hmm
    go_wp2
    go_ret
    exact ⟨rfl, below_drewN UU10 _⟩
end Go.Proofs.Qxb6627683a
