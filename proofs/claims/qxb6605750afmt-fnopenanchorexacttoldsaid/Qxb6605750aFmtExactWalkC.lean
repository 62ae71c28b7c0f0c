/-
  The walk of FnOpenAnchorExact: a new name, and there is room. Ours.
-/
import Derived.Test.Qxb6605750aFmtExactAid
namespace Go.Proofs.Qxb6605750aFmt.anc
open Go.RowKit Go.Maps Go.Extern.Stop Go.Stop Go.Extern

set_option maxRecDepth 100000 in
set_option maxHeartbeats 4000000 in
theorem exact_room (F : Interp) (kept line : Int) (name : ByteArray) (na ja : Option Addr) (n nc m jc : Nat) (nm : Nat → ByteArray) (ba : Nat → Option Addr) (bl bc : Nat → Nat) (w : World) (hF : F.answers w.tape)
    (hN : Cells w na n fun i => .string (nm i)) (hJ : Cells w ja m fun i => .slice (ba i) (bl i) (bc i)) (hBy : ∀ i, i < m → Bytes w (ba i) (bl i)) (h0 : ∀ i, i < m → ba i = none → bl i = 0)
    (hname : name.size ≤ maxLen) (hn : n ≤ maxLen) (hm : m ≤ maxLen) (hnm : ∀ i, i < n → (nm i).size ≤ maxLen) (hbl : ∀ i, i < m → bl i ≤ maxLen) (HP : Hid (seenK (SK nm m bl n 0) name.data.toList = false)) (HFU : Hid (¬ 3145728 < kept + (name.size : Int))) :
    Calls Tryf.prog 3 #[.int .i64 kept, .slice na n nc, .slice ja m jc, .string name, .int .i64 line] w fun e w' => e = .returned (.bool true) ∧ Below w.heap.size w w' := by
  have HG := hide (zzBytesX kept line name na ja n nc m jc nm ba bl bc w hN hJ hname hn hm hnm hbl)
  have HF := hide hF
  have HN := hide hN
  have HJ := hide hJ
  have HY := hide hBy
  have H0 := hide h0
  have HM := hide hname
  have HL := hide hnm
  have HBL := hide hbl
  clear hF hN hJ hBy h0 hnm hbl
  unfold maxLen at hname hn hm
  go_enter Tryf.func3, Tryf.ntmps3
  go_wp2_with fail
  refine (unhide HG).mono ?_
  rintro e w0 ⟨b, rfl, rfl, hb⟩
  clear HG
  cases b with
  | false =>
    clear hb
    go_wp2
    go_ret
    exact ⟨rfl, Below.refl _ _⟩
  | true =>
  have hB := hb rfl
  clear hb
  have HLs : Hid (∀ i, i < n → (nm i).size ≤ 1048576) := fun i hi => by have := sumN_ge (fun i => (nm i).size) n i hi; omega
  have HBs : Hid (∀ i, i < m → bl i ≤ 1048576) := fun i hi => by have := sumN_ge bl m i hi; omega
  have hnB : n ≤ 1048576 := by omega
  have hmB : m ≤ 1048576 := by omega
  have hsB : name.size ≤ 1048576 := by omega
  clear hB
  by_cases hn16 : 65536 < (n : Int)
  · go_wp2
    all_goals
      go_ret
      exact ⟨rfl, Below.refl _ _⟩
  by_cases hm16 : 65536 < (m : Int)
  · go_wp2
    all_goals
      go_ret
      exact ⟨rfl, Below.refl _ _⟩
  go_wp2
  -- LOOP 1
  go_loop [11, 12] (fun t i => ∃ (k : Nat) (v : Int), k ≤ n ∧ i = .int .i64 k ∧ t = .int .i64 v ∧ 0 ≤ v ∧ v ≤ 1048576) (fun _ i => n - (intOf i).toNat)
  case atStart => exact ⟨0, _, Nat.zero_le _, rfl, rfl, by omega, by omega⟩
  case round =>
    obtain ⟨k, v, hk, rfl, rfl, hv0, hv1⟩ := hrel
    by_cases hlt : k < n
    · obtain ⟨b, o, hi, hc⟩ := (unhide HN).at hlt nc Tryf.underlying22 size9
      have hl := (unhide HLs) k hlt
      go_wp2
      · go_ret
        exact ⟨rfl, Below.refl _ _⟩
      · go_round
        case rel => exact ⟨k + 1, _, by omega, by go_num, rfl, by omega, by omega⟩
        case measure => simp [intOf]; omega
    · go_wp2
      -- LOOP 2
      go_loop [11, 13] (fun t i => ∃ (k : Nat) (v : Int), k ≤ m ∧ i = .int .i64 k ∧ t = .int .i64 v ∧ 0 ≤ v ∧ v ≤ 1048576) (fun _ i => m - (intOf i).toNat)
      case atStart => exact ⟨0, v, Nat.zero_le _, rfl, rfl, hv0, hv1⟩
      case round =>
        clear hv0 hv1
        obtain ⟨k2, v2, hk2, rfl, rfl, hv0, hv1⟩ := hrel
        by_cases hlt2 : k2 < m
        · obtain ⟨b, o, hi, hc⟩ := (unhide HJ).at hlt2 jc Tryf.underlying23 size25
          have hl := (unhide HBs) k2 hlt2
          go_wp2
          · go_ret
            exact ⟨rfl, Below.refl _ _⟩
          · go_round
            case rel => exact ⟨k2 + 1, _, by omega, by go_num, rfl, by omega, by omega⟩
            case measure => simp [intOf]; omega
        · by_cases hk0 : kept < 0
          · go_wp2
            all_goals
              go_ret
              exact ⟨rfl, Below.refl _ _⟩
          by_cases hk1 : 3145728 < kept
          · go_wp2
            all_goals
              go_ret
              exact ⟨rfl, Below.refl _ _⟩
          have hmk := run_make_row' (P := Tryf.prog) 23 25 (.slice none 0 0) 24 Tryf.underlying23 info25 rfl .i64 .i64 m (by omega) (by omega)
          go_wp2
          clear hmk
          -- LOOP 3
          go_loopw [15] (fun i wr => ∃ (k : Nat) (ca : Nat → Option Addr) (cc : Nat → Nat), k ≤ m ∧ i = .int .i64 k ∧ JRow wr w0.heap.size m k bl ca cc ∧ Below w0.heap.size w0 wr) (fun i _ => m - (intOf i).toNat)
          case atStart => exact ⟨0, fun _ => none, fun _ => 0, Nat.zero_le _, rfl, JRow.made w0 m bl _ _, (Below.refl _ _).alloc (Nat.le_refl _) _⟩
          case round =>
            obtain ⟨k3, ca, cc, hk3, rfl, hR, hbel⟩ := hrel
            by_cases hlt3 : k3 < m
            · obtain ⟨b, o, hi, hc⟩ := ((unhide HJ).below hbel).at hlt3 jc Tryf.underlying23 size25
              have HR := hide hR
              have HE := hide hbel
              have HYr := hide (((unhide HY) k3 hlt3).up hbel)
              clear hR hbel
              go_wp2_with fail
              refine (clone_any _ _ _ _ (unhide HYr) ((unhide HBs) k3 hlt3) ((unhide H0) k3 hlt3)).mono ?_
              rintro e w1 ⟨a', c', rfl, hcl⟩
              obtain ⟨⟨v9, hv9⟩, hf9⟩ := (unhide HR).next hlt3 hcl.bel
              have HR1 := hide ((unhide HR).step hlt3 c' hcl)
              have HE1 := hide (((unhide HE).trans (hcl.bel.mono (unhide HE).size)).setCell (p := ⟨w0.heap.size, k3, none⟩) (Nat.le_refl _) (.slice a' (bl k3) c'))
              clear hcl hc
              go_wp2
              go_roundw
              case rel => exact ⟨k3 + 1, _, _, by omega, by go_num, unhide HR1, unhide HE1⟩
              case measure => simp [intOf]; omega
            · obtain rfl : k3 = m := by omega
              obtain ⟨wJ, rfl⟩ : ∃ x, x = wr := ⟨_, rfl⟩
              have HNJ := hide ((unhide HN).below hbel)
              have HJJ := hide hR.cells
              have HYJ := hide hR.byt
              have HEJ := hide hbel
              have hmm := run_makeMap27
              have HSB := hide (SK_sum nm k3 bl n (unhide HLs) (unhide HBs) hnB)
              have HCB := hide (SK_cnt nm k3 bl n)
              have HOB := hide (SK_oldb nm k3 bl n name.data.toList (unhide HBs))
              clear hR hbel HN HJ HY H0 hlt hlt2 hlt3 hk3 hk2 hv0 hv1
              go_wp2
              -- LOOP 4
              go_loopw [17, 18, 19, 20, 21] (fun sm ds pr ol i wx => ∃ k : Nat, k ≤ n ∧ i = .int .i64 ((k : Int) - 1) ∧ sm = .int .i64 (sumK (SK nm k3 bl n k) : Nat) ∧ ds = .int .i64 (cntK (SK nm k3 bl n k) : Nat) ∧ pr = .bool (seenK (SK nm k3 bl n k) name.data.toList) ∧ ol = .int .i64 (oldK name.data.toList (SK nm k3 bl n k) : Nat) ∧ HoldsMap wx Tryf.prog 9 wJ.heap.size (seenF (SK nm k3 bl n k)) (cntK (SK nm k3 bl n k)) ∧ Below wJ.heap.size wJ wx ∧ wx.heap.size = wJ.heap.size + 1) (fun _ _ _ _ i _ => (intOf i + 1).toNat)
              case atStart => exact ⟨n, Nat.le_refl _, rfl, by rw [SK_end]; rfl, by rw [SK_end]; rfl, by rw [SK_end]; rfl, by rw [SK_end]; rfl, by rw [SK_end, seenF_nil]; exact HoldsMap.made wJ _ _, (Below.refl _ _).alloc (Nat.le_refl _) _, by simp⟩
              case round =>
                obtain ⟨k4, hk4, rfl, rfl, rfl, rfl, rfl, hH, hbx, hzx⟩ := hrel
                cases k4 with
                | zero =>
                  obtain ⟨wK, rfl⟩ : ∃ x, x = wr := ⟨_, rfl⟩
                  have HX := hide hbx
                  have HEK := hide ((unhide HEJ).trans (hbx.mono (unhide HEJ).size))
                  have hsb := (unhide HSB) 0
                  have hcb := (unhide HCB) 0
                  have hob := (unhide HOB) 0
                  have hJK : wJ.heap.size ≤ wK.heap.size := by omega
                  clear hbx hH hmm hk4 hzx
                  by_cases hks : kept < (sumK (SK nm k3 bl n 0) : Int)
                  · go_wp2
                    go_ret
                    exact ⟨rfl, unhide HEK⟩
                  go_wp2_with fail
                  refine (newComposer_any _ _).mono ?_
                  rintro e w5 ⟨rfl, hc5, ht5, hz5⟩
                  have HX5 := hide ((unhide HX).trans (ht5.below (B := wJ.heap.size) (by omega) (by simp)))
                  have HC5 := hide hc5
                  clear hc5 ht5
                  go_wp2
                  -- LOOP 5
                  go_loopw [25] (fun i wx => ∃ k : Nat, k ≤ n ∧ i = .int .i64 k ∧ Comp wx (wK.heap.size + 1) wK.heap.size (mapTo (KY nm) (wK.heap.size + 2) k) (cntTo (KY nm) (wK.heap.size + 2) k) kept ∧ (∀ q, q < k → Anch wx (wK.heap.size + 2 + q) false false (jval k3 ca bl cc q)) ∧ Below wJ.heap.size wJ wx ∧ wx.heap.size = wK.heap.size + 2 + k) (fun i _ => n - (intOf i).toNat)
                  case atStart => exact ⟨0, Nat.zero_le _, rfl, unhide HC5, fun q hq => (by omega), unhide HX5, hz5⟩
                  case round =>
                    obtain ⟨k5, hk5, rfl, hC, hA, hbx, hz⟩ := hrel
                    by_cases hlt5 : k5 < n
                    · obtain ⟨b, o, hi, hc⟩ := ((unhide HNJ).below hbx).at hlt5 nc Tryf.underlying22 size9
                      have hl := (unhide HLs) k5 hlt5
                      have HLm := (hide ((unhide HL) k5 hlt5))
                      have HC := hide hC
                      have HA := hide hA
                      have HX := hide hbx
                      clear hC hA hbx
                      have hcn := cntTo_le (KY nm) (wK.heap.size + 2) k5
                      by_cases hjm : k5 < k3
                      · have hcj := (unhide HJJ).here (unhide HX) hjm
                        go_wp2_with fail
                        go_region_with (first | (go_at_call 9; refine (newAnchor_any _ _ _ _).mono ?_; rintro e w6 ⟨rfl, ha6, ht6, hz6⟩; have hc6 := (ht6.cell (p := ⟨b, o + k5, none⟩) (cell_lt hc) (by simp)).trans hc; have HC6 := hide ((unhide HC).drew.turn ht6 (by simp) (by simp)); have HA6 := hide ha6; have HT6 := hide ht6; clear ha6 ht6) | (go_at_call 8; refine (putAnchor_any (unhide HC6) ?_ (nm k5) (unhide HLm) _).mono ?_; (unfold maxLen; omega); rintro e w7 ⟨rfl, hc7, ht7, hz7⟩; have HC7 := hide hc7; have HT7 := hide ht7; clear hc7 ht7))
                        all_goals
                          have hz7' : w7.heap.size = wK.heap.size + 2 + (k5 + 1) := by rw [hz7, hz6]; show wr.heap.size + 1 = _; omega
                          have HT6' := hide (unhide HT6).undrew
                          have HA6' : Hid (Anch w6 (wK.heap.size + 2 + k5) false false (.slice (ca k5) (bl k5) (cc k5))) := by have := unhide HA6; rw [show wr.drew.heap.size = wK.heap.size + 2 + k5 from hz] at this; exact this
                          clear hz6 hz7 hc6
                          go_wp2
                          go_roundw
                          case rel => exact ⟨k5 + 1, by omega, by go_num, unhide HC7, step5 (unhide HA) (by rw [jval_in hjm]; exact unhide HA6') (unhide HT6') (unhide HT7) (by omega), below5 (unhide HX) (unhide HT6') (unhide HT7) hJK, hz7'⟩
                          case measure => simp [intOf] <;> omega
                      · go_wp2_with fail
                        go_region_with (first | (go_at_call 9; refine (newAnchor_any _ _ _ _).mono ?_; rintro e w6 ⟨rfl, ha6, ht6, hz6⟩; have hc6 := (ht6.cell (p := ⟨b, o + k5, none⟩) (cell_lt hc) (by simp)).trans hc; have HC6 := hide ((unhide HC).drew.turn ht6 (by simp) (by simp)); have HA6 := hide ha6; have HT6 := hide ht6; clear ha6 ht6) | (go_at_call 8; refine (putAnchor_any (unhide HC6) ?_ (nm k5) (unhide HLm) _).mono ?_; (unfold maxLen; omega); rintro e w7 ⟨rfl, hc7, ht7, hz7⟩; have HC7 := hide hc7; have HT7 := hide ht7; clear hc7 ht7))
                        all_goals
                          have hz7' : w7.heap.size = wK.heap.size + 2 + (k5 + 1) := by rw [hz7, hz6]; show wr.heap.size + 1 = _; omega
                          have HT6' := hide (unhide HT6).undrew
                          have HA6' : Hid (Anch w6 (wK.heap.size + 2 + k5) false false (.slice none 0 0)) := by have := unhide HA6; rw [show wr.drew.heap.size = wK.heap.size + 2 + k5 from hz] at this; exact this
                          clear hz6 hz7 hc6
                          go_wp2
                          go_roundw
                          case rel => exact ⟨k5 + 1, by omega, by go_num, unhide HC7, step5 (unhide HA) (by rw [jval_out hjm]; exact unhide HA6') (unhide HT6') (unhide HT7) (by omega), below5 (unhide HX) (unhide HT6') (unhide HT7) hJK, hz7'⟩
                          case measure => simp [intOf] <;> omega
                    · obtain rfl : n = k5 := by omega
                      obtain ⟨wL, rfl⟩ : ∃ x, x = wr := ⟨_, rfl⟩
                      have HC : Hid (Comp wL (wK.heap.size + 1) wK.heap.size (mapTo (KY nm) (wK.heap.size + 2) n) (cntK (SK nm k3 bl n 0)) kept) := by
                        have h := hC
                        rw [cntTo_eq (KY nm) (jlen k3 bl) (wK.heap.size + 2) n] at h
                        exact h
                      have HA := hide hA
                      have HX := hide hbx
                      have hpn := ptr_neq_same
                      have hmm := run_makeMap27
                      clear hC hA hbx HX5 HC5 hz5 hlt5 hk5
                      have hp := unhide HP
                      have hfull := unhide HFU
                      have HFM := hide (mapTo_none (KY nm) (wK.heap.size + 2) name.data.toList n (fun k hk => seenK_suf_no hp (Nat.zero_le _) hk))
                      have hrf : decide (3145728 < kept + (name.size : Int)) = false := by rw [decide_eq_false_iff_not]; omega
                      go_wp2_with (first | (go_at_call 10; refine (anchorOf_none (unhide HC) name (unhide HM) (unhide HFM)).mono ?_; rintro e wL ⟨rfl, rfl⟩))
                      refine (zzOpen_same (openAnchor_new (unhide HC) (by unfold maxLen; omega) name (unhide HM) line (unhide HFM) (by omega) (by omega))).mono ?_
                      rintro e wM ⟨rfl, hcM, haM, htM, hzM⟩
                      rw [hz] at hcM haM
                      have HCM := hide hcM
                      have HAM := hide haM
                      have HTM := hide htM
                      clear hcM haM htM HC hzM
                      go_wp2_with (first | (go_at_call 12; refine (kept_any (unhide HCM)).mono ?_; rintro e wM ⟨rfl, rfl⟩) | (go_at_call 13; refine (count_any (unhide HCM)).mono ?_; rintro e wM ⟨rfl, rfl⟩) | (go_at_call 10; refine (anchorOf_at (unhide HCM) name (unhide HM) (upd_same _ _ _)).mono ?_; rintro e wM ⟨rfl, rfl⟩) | (go_at_call 14; refine (open_any (unhide HAM)).mono ?_; rintro e wM ⟨rfl, rfl⟩) | (go_at_call 15; refine (prt_any (unhide HAM)).mono ?_; rintro e wM ⟨rfl, rfl⟩) | (go_at_call 16; refine (json_any (unhide HAM)).mono ?_; rintro e wM ⟨rfl, rfl⟩))
                      have HG : Hid (∀ i, i < n → seenK (SK nm k3 bl n (i + 1)) (nm i).data.toList = false → ((nm i).toList == name.toList) = false → upd (mapTo (KY nm) (wK.heap.size + 2) n) name.data.toList (.pointer (some ⟨wK.heap.size + 2 + n, 0, none⟩)) (nm i).data.toList = some (.pointer (some ⟨wK.heap.size + 2 + i, 0, none⟩))) := fun i hi hs he => by
                        rw [upd_other _ _ (by rw [← key_eq] at he; simpa using he)]
                        exact last_at nm k3 bl (wK.heap.size + 2) n i hi hs
                      have HXM := hide ((unhide HX).trans ((unhide HTM).below (B := wJ.heap.size) (unhide HX).size (by simp; omega)))
                      have HAn : Hid (∀ q, q < n → Anch wM (wK.heap.size + 2 + q) false false (jval k3 ca bl cc q)) := fun q hq => ((unhide HA) q hq).turn (unhide HTM) (by simp; omega)
                      clear HA HX HTM
                      -- LOOP 6
                      go_loopw [34] (fun i wx => ∃ k : Nat, k ≤ n ∧ i = .int .i64 ((k : Int) - 1) ∧ HoldsMap wx Tryf.prog 9 wM.heap.size (seenF (SK nm k3 bl n k)) (cntK (SK nm k3 bl n k)) ∧ Below wM.heap.size wM wx) (fun i _ => (intOf i + 1).toNat)
                      case atStart => exact ⟨n, Nat.le_refl _, rfl, by rw [SK_end, seenF_nil]; exact HoldsMap.made wM _ _, (Below.refl _ _).alloc (Nat.le_refl _) _⟩
                      case round =>
                        obtain ⟨k6, hk6, rfl, hH, hbx⟩ := hrel
                        cases k6 with
                        | zero =>
                          have HE6 := hide ((unhide HEJ).trans (((unhide HXM).trans (hbx.mono (unhide HXM).size)).mono (unhide HEJ).size))
                          clear hbx hH
                          go_wp2
                          go_ret
                          exact ⟨rfl, unhide HE6⟩
                        | succ k6 =>
                          rw [show (((k6 + 1 : Nat) : Int) - 1) = (k6 : Int) from by omega]
                          have hk6' : k6 < n := by omega
                          have HXx := hide ((unhide HXM).trans (hbx.mono (unhide HXM).size))
                          obtain ⟨b, o, hi, hc⟩ := ((unhide HNJ).below (unhide HXx)).at hk6' nc Tryf.underlying22 size9
                          have HLm := (hide ((unhide HL) k6 hk6'))
                          have HBx := hide hbx
                          have HH := hide hH
                          have hcb6 := (unhide HCB) (k6 + 1)
                          clear hbx hH
                          cases hs : seenK (SK nm k3 bl n (k6 + 1)) (nm k6).data.toList with
                          | true =>
                            have HO := hide (SK_old nm k3 bl hk6' hs name.data.toList)
                            go_wp2_with (first | (at_lookup; refine wpList_look _ rfl _ _ 27 rfl 9 4 Tryf.underlying9 Tryf.underlying27 (zero4 _) wM.heap.size _ _ rfl (unhide HH) (nm k6) rfl (unhide HLm) ?_; rw [seenF_getD, hs]))
                            go_roundw
                            case rel =>
                              obtain ⟨e1, e2, e3, e4, e5⟩ := unhide HO
                              exact ⟨k6, by omega, by go_num, by rw [e5, e2]; exact unhide HH, unhide HBx⟩
                            case measure => simp [intOf] <;> omega
                          | false =>
                            have HO := hide (SK_new nm k3 bl hk6' hs name.data.toList)
                            cases he : ((nm k6).toList == name.toList)
                            · by_cases hjm : k6 < k3
                              · have HAn6 := hide ((unhide HAn) k6 hk6')
                                rw [jval_in hjm] at HAn6
                                have HG6 := hide ((unhide HG) k6 hk6' hs he)
                                go_wp2_with (first | (at_lookup; refine wpList_look _ rfl _ _ 27 rfl 9 4 Tryf.underlying9 Tryf.underlying27 (zero4 _) wM.heap.size _ _ rfl (unhide HH) (nm k6) rfl (unhide HLm) ?_; rw [seenF_getD, hs]) | (at_mapUpdate; refine wpList_store _ rfl _ _ _ 27 rfl 9 4 Tryf.underlying9 Tryf.underlying27 wM.heap.size _ _ rfl (unhide HH) ?_ (nm k6) rfl (unhide HLm) (.bool true) rfl ?_; (unfold maxLen; omega); intro w2 ho2 hg2 hz2))
                                have HB2 := hide ((unhide HBx).grown hg2 (unhide HBx).size (by simp))
                                have HX2 := hide ((unhide HXM).trans ((unhide HB2).mono (unhide HXM).size))
                                have HC2 := hide ((unhide HCM).below (unhide HB2))
                                have HA2 := hide ((unhide HAn6).below (unhide HB2))
                                have hcj := (unhide HJJ).here (unhide HX2) hjm
                                have HO2 := hide ho2
                                clear ho2 hg2 hz2 hc hi
                                refine (anchorOf_at (unhide HC2) (nm k6) (unhide HLm) (unhide HG6)).mono ?_
                                rintro e w2 ⟨rfl, rfl⟩
                                go_wp2_with (first | (go_at_call 14; refine (open_any (unhide HA2)).mono ?_; rintro e w2 ⟨rfl, rfl⟩) | (go_at_call 15; refine (prt_any (unhide HA2)).mono ?_; rintro e w2 ⟨rfl, rfl⟩) | (go_at_call 16; refine (json_any (unhide HA2)).mono ?_; rintro e w2 ⟨rfl, rfl⟩))
                                refine (same_any _ _ _ _ (((unhide HYJ) k6 hjm).up (unhide HX2)) ((unhide HBs) k6 hjm)).mono ?_
                                rintro e w3 ⟨rfl, q, rfl⟩
                                go_wp2
                                go_roundw
                                case rel =>
                                  obtain ⟨e1, e2, e3, e4, e5, e6⟩ := unhide HO
                                  have h := unhide HO2
                                  rw [e5, e6] at h
                                  exact ⟨k6, by omega, by go_num, h, Below.drewN (unhide HB2) q⟩
                                case measure => simp [intOf] <;> omega
                              · have HAn6 := hide ((unhide HAn) k6 hk6')
                                rw [jval_out hjm] at HAn6
                                have HG6 := hide ((unhide HG) k6 hk6' hs he)
                                go_wp2_with (first | (at_lookup; refine wpList_look _ rfl _ _ 27 rfl 9 4 Tryf.underlying9 Tryf.underlying27 (zero4 _) wM.heap.size _ _ rfl (unhide HH) (nm k6) rfl (unhide HLm) ?_; rw [seenF_getD, hs]) | (at_mapUpdate; refine wpList_store _ rfl _ _ _ 27 rfl 9 4 Tryf.underlying9 Tryf.underlying27 wM.heap.size _ _ rfl (unhide HH) ?_ (nm k6) rfl (unhide HLm) (.bool true) rfl ?_; (unfold maxLen; omega); intro w2 ho2 hg2 hz2))
                                have HB2 := hide ((unhide HBx).grown hg2 (unhide HBx).size (by simp))
                                have HX2 := hide ((unhide HXM).trans ((unhide HB2).mono (unhide HXM).size))
                                have HC2 := hide ((unhide HCM).below (unhide HB2))
                                have HA2 := hide ((unhide HAn6).below (unhide HB2))
                                have HO2 := hide ho2
                                clear ho2 hg2 hz2 hc hi
                                refine (anchorOf_at (unhide HC2) (nm k6) (unhide HLm) (unhide HG6)).mono ?_
                                rintro e w2 ⟨rfl, rfl⟩
                                go_wp2_with (first | (go_at_call 14; refine (open_any (unhide HA2)).mono ?_; rintro e w2 ⟨rfl, rfl⟩) | (go_at_call 15; refine (prt_any (unhide HA2)).mono ?_; rintro e w2 ⟨rfl, rfl⟩) | (go_at_call 16; refine (json_any (unhide HA2)).mono ?_; rintro e w2 ⟨rfl, rfl⟩))
                                refine (same_any none 0 0 _ (fun k hk => (by omega)) (by omega)).mono ?_
                                rintro e w3 ⟨rfl, q, rfl⟩
                                go_wp2
                                go_roundw
                                case rel =>
                                  obtain ⟨e1, e2, e3, e4, e5, e6⟩ := unhide HO
                                  have h := unhide HO2
                                  rw [e5, e6] at h
                                  exact ⟨k6, by omega, by go_num, h, Below.drewN (unhide HB2) q⟩
                                case measure => simp [intOf] <;> omega
                            · go_wp2_with (first | (at_lookup; refine wpList_look _ rfl _ _ 27 rfl 9 4 Tryf.underlying9 Tryf.underlying27 (zero4 _) wM.heap.size _ _ rfl (unhide HH) (nm k6) rfl (unhide HLm) ?_; rw [seenF_getD, hs]) | (at_mapUpdate; refine wpList_store _ rfl _ _ _ 27 rfl 9 4 Tryf.underlying9 Tryf.underlying27 wM.heap.size _ _ rfl (unhide HH) ?_ (nm k6) rfl (unhide HLm) (.bool true) rfl ?_; (unfold maxLen; omega); intro w2 ho2 hg2 hz2))
                              go_roundw
                              case rel =>
                                obtain ⟨e1, e2, e3, e4, e5, e6⟩ := unhide HO
                                rw [e5, e6] at ho2
                                exact ⟨k6, by omega, by go_num, ho2, (unhide HBx).grown hg2 (unhide HBx).size (by simp)⟩
                              case measure => simp [intOf] <;> omega
                | succ k4 =>
                  rw [show (((k4 + 1 : Nat) : Int) - 1) = (k4 : Int) from by omega]
                  have hk4' : k4 < n := by omega
                  obtain ⟨b, o, hi, hc⟩ := ((unhide HNJ).below hbx).at hk4' nc Tryf.underlying22 size9
                  have hl := (unhide HLs) k4 hk4'
                  have HLm := (hide ((unhide HL) k4 hk4'))
                  have HX := hide hbx
                  have HH := hide hH
                  clear hbx hH
                  cases hs : seenK (SK nm k3 bl n (k4 + 1)) (nm k4).data.toList with
                  | true =>
                    have HO := hide (SK_old nm k3 bl hk4' hs name.data.toList)
                    go_wp2_with (first | (at_lookup; refine wpList_look _ rfl _ _ 27 rfl 9 4 Tryf.underlying9 Tryf.underlying27 (zero4 _) wJ.heap.size _ _ rfl (unhide HH) (nm k4) rfl (unhide HLm) ?_; rw [seenF_getD, hs]))
                    go_roundw
                    case rel =>
                      obtain ⟨e1, e2, e3, e4, e5⟩ := unhide HO
                      exact ⟨k4, by omega, by go_num, by rw [e1], by rw [e2], by rw [e3], by rw [e4], by rw [e5, e2]; exact unhide HH, unhide HX, hzx⟩
                    case measure => simp [intOf] <;> omega
                  | false =>
                    have HO := hide (SK_new nm k3 bl hk4' hs name.data.toList)
                    have hsb := (unhide HSB) (k4 + 1)
                    have hcb := (unhide HCB) (k4 + 1)
                    by_cases hjm : k4 < k3
                    · have hbk := (unhide HBs) k4 hjm
                      cases he : ((nm k4).toList == name.toList)
                      · go_wp2_with (first | (at_lookup; refine wpList_look _ rfl _ _ 27 rfl 9 4 Tryf.underlying9 Tryf.underlying27 (zero4 _) wJ.heap.size _ _ rfl (unhide HH) (nm k4) rfl (unhide HLm) ?_; rw [seenF_getD, hs]) | (at_mapUpdate; refine wpList_store _ rfl _ _ _ 27 rfl 9 4 Tryf.underlying9 Tryf.underlying27 wJ.heap.size _ _ rfl (unhide HH) ?_ (nm k4) rfl (unhide HLm) (.bool true) rfl ?_; (unfold maxLen; omega); intro w2 ho2 hg2 hz2; have hc2 := (unhide HJJ).later (unhide HX) hg2 (Nat.le_refl _) hjm))
                        go_roundw
                        case rel =>
                          obtain ⟨e1, e2, e3, e4, e5, e6⟩ := unhide HO
                          have he' : ((nm k4).data.toList == name.data.toList) = false := by rw [key_eq]; exact he
                          rw [e5, e6] at ho2
                          refine ⟨k4, by omega, by go_num, by rw [e1, jlen_in hjm]; go_num, by rw [e2]; go_num, by rw [e3, he']; rfl, ?_, ho2, (unhide HX).grown hg2 (unhide HX).size (by simp), by rw [hz2]; exact hzx⟩
                          rw [e4, if_neg (by simpa using he')]
                        case measure => simp [intOf] <;> omega
                      · go_wp2_with (first | (at_lookup; refine wpList_look _ rfl _ _ 27 rfl 9 4 Tryf.underlying9 Tryf.underlying27 (zero4 _) wJ.heap.size _ _ rfl (unhide HH) (nm k4) rfl (unhide HLm) ?_; rw [seenF_getD, hs]) | (at_mapUpdate; refine wpList_store _ rfl _ _ _ 27 rfl 9 4 Tryf.underlying9 Tryf.underlying27 wJ.heap.size _ _ rfl (unhide HH) ?_ (nm k4) rfl (unhide HLm) (.bool true) rfl ?_; (unfold maxLen; omega); intro w2 ho2 hg2 hz2; have hc2 := (unhide HJJ).later (unhide HX) hg2 (Nat.le_refl _) hjm))
                        go_roundw
                        case rel =>
                          obtain ⟨e1, e2, e3, e4, e5, e6⟩ := unhide HO
                          have he' : ((nm k4).data.toList == name.data.toList) = true := by rw [key_eq]; exact he
                          rw [e5, e6] at ho2
                          refine ⟨k4, by omega, by go_num, by rw [e1, jlen_in hjm]; go_num, by rw [e2]; go_num, by rw [e3, he']; rfl, ?_, ho2, (unhide HX).grown hg2 (unhide HX).size (by simp), by rw [hz2]; exact hzx⟩
                          rw [e4, if_pos (by simpa using he'), jlen_in hjm]
                        case measure => simp [intOf] <;> omega
                    · cases he : ((nm k4).toList == name.toList)
                      · go_wp2_with (first | (at_lookup; refine wpList_look _ rfl _ _ 27 rfl 9 4 Tryf.underlying9 Tryf.underlying27 (zero4 _) wJ.heap.size _ _ rfl (unhide HH) (nm k4) rfl (unhide HLm) ?_; rw [seenF_getD, hs]) | (at_mapUpdate; refine wpList_store _ rfl _ _ _ 27 rfl 9 4 Tryf.underlying9 Tryf.underlying27 wJ.heap.size _ _ rfl (unhide HH) ?_ (nm k4) rfl (unhide HLm) (.bool true) rfl ?_; (unfold maxLen; omega); intro w2 ho2 hg2 hz2))
                        go_roundw
                        case rel =>
                          obtain ⟨e1, e2, e3, e4, e5, e6⟩ := unhide HO
                          have he' : ((nm k4).data.toList == name.data.toList) = false := by rw [key_eq]; exact he
                          rw [e5, e6] at ho2
                          refine ⟨k4, by omega, by go_num, by rw [e1, jlen_out hjm]; go_num, by rw [e2]; go_num, by rw [e3, he']; rfl, ?_, ho2, (unhide HX).grown hg2 (unhide HX).size (by simp), by rw [hz2]; exact hzx⟩
                          rw [e4, if_neg (by simpa using he')]
                        case measure => simp [intOf] <;> omega
                      · go_wp2_with (first | (at_lookup; refine wpList_look _ rfl _ _ 27 rfl 9 4 Tryf.underlying9 Tryf.underlying27 (zero4 _) wJ.heap.size _ _ rfl (unhide HH) (nm k4) rfl (unhide HLm) ?_; rw [seenF_getD, hs]) | (at_mapUpdate; refine wpList_store _ rfl _ _ _ 27 rfl 9 4 Tryf.underlying9 Tryf.underlying27 wJ.heap.size _ _ rfl (unhide HH) ?_ (nm k4) rfl (unhide HLm) (.bool true) rfl ?_; (unfold maxLen; omega); intro w2 ho2 hg2 hz2))
                        go_roundw
                        case rel =>
                          obtain ⟨e1, e2, e3, e4, e5, e6⟩ := unhide HO
                          have he' : ((nm k4).data.toList == name.data.toList) = true := by rw [key_eq]; exact he
                          rw [e5, e6] at ho2
                          refine ⟨k4, by omega, by go_num, by rw [e1, jlen_out hjm]; go_num, by rw [e2]; go_num, by rw [e3, he']; rfl, ?_, ho2, (unhide HX).grown hg2 (unhide HX).size (by simp), by rw [hz2]; exact hzx⟩
                          rw [e4, if_pos (by simpa using he'), jlen_out hjm]; rfl
                        case measure => simp [intOf] <;> omega
end Go.Proofs.Qxb6605750aFmt.anc
