/-
  The walk of FnOpenAnchorReopen. Ours.
-/
import Derived.Test.Qxb6605750aFmtBase
import Derived.Deep.RegionWith
namespace Go.Proofs.Qxb6605750aFmt.anc
open Go.RowKit Go.Maps

set_option maxHeartbeats 400000 in
theorem zzOpen_of {p : Option Addr} {s : ByteArray} {l : Int} {w : World} {Q : Option Addr → Value → World → Prop}
    (h : Calls Tryf.prog 19 #[.pointer p, .string s, .int .i64 l] w fun e w' => ∃ x y, e = .returned (.tuple #[.pointer x, y]) ∧ Q x y w') :
    Calls Tryf.prog 11 #[.pointer p, .string s, .int .i64 l] w fun e w' => ∃ x y, e = .returned (.tuple #[.pointer x, y]) ∧ Q x y w' := by
  have H := hide h
  clear h
  go_enter Tryf.func11, Tryf.ntmps11
  go_wp2_with fail
  refine (unhide H).mono ?_
  rintro e w' ⟨x, y, rfl, hq⟩
  have HQ := hide hq
  clear hq
  go_wp2
  go_ret2
  exact ⟨x, y, rfl, unhide HQ⟩

theorem anchorOf_at {w : World} {cb mb : Nat} {f : List UInt8 → Option Value} {c : Nat} {kept : Int} (h : Comp w cb mb f c kept) (s : ByteArray) (hs : s.size ≤ maxLen) {v : Value} (hf : f s.data.toList = some v) :
    Calls Tryf.prog 10 #[.pointer (some ⟨cb, 0, none⟩), .string s] w fun e w' => e = .returned v ∧ w' = w := by
  refine (anchorOf_any h s hs).mono ?_
  rw [hf]
  exact fun e w' h => h

/-- do the names' lengths sum to at most 2^20? (plain) -/
def bytesB (n1 n2 : ByteArray) : Bool := decide (n1.size + n2.size ≤ 1048576)

set_option maxHeartbeats 400000 in
theorem zzBytes_any (kept line : Int) (n1 n2 : ByteArray) (h1 : n1.size ≤ maxLen) (h2 : n2.size ≤ maxLen) (w : World) :
    Calls Tryf.prog 18 #[.int .i64 kept, .string n1, .string n2, .int .i64 line] w fun e w' => e = .returned (.bool (bytesB n1 n2)) ∧ w' = w := by
  unfold maxLen at h1 h2
  go_enter Tryf.func18, Tryf.ntmps18
  go_wp2
  all_goals
    go_ret
    refine ⟨ret_bool ?_, rfl⟩
    unfold bytesB
    symm
    first | (rw [decide_eq_true_eq]; omega) | (rw [decide_eq_false_iff_not]; omega)

theorem zzOpen_same {p x : Option Addr} {y : Value} {s : ByteArray} {l : Int} {w : World} {R : World → Prop}
    (h : Calls Tryf.prog 19 #[.pointer p, .string s, .int .i64 l] w fun e w' => e = .returned (.tuple #[.pointer x, y]) ∧ R w') :
    Calls Tryf.prog 11 #[.pointer p, .string s, .int .i64 l] w fun e w' => e = .returned (.tuple #[.pointer x, y]) ∧ R w' := by
  refine (zzOpen_of (Q := fun x' y' w' => x' = x ∧ y' = y ∧ R w') (h.mono fun e w' hr => ⟨x, y, hr.1, rfl, rfl, hr.2⟩)).mono ?_
  rintro e w' ⟨x', y', rfl, rfl, rfl, hr⟩
  exact ⟨rfl, hr⟩

set_option maxRecDepth 100000 in
set_option maxHeartbeats 1000000 in
theorem reopen_diff (kept : Int) (n1 n2 : ByteArray) (line : Int) (M1 : Hid (n1.size ≤ maxLen)) (M2 : Hid (n2.size ≤ maxLen)) (hB : bytesB n1 n2 = true) (hk0 : 0 ≤ kept) (hk1 : kept ≤ 3145728 - (n1.size : Int) - n2.size) (hne : (n2.toList == n1.toList) = false) (hnd : Hid (n2.data.toList ≠ n1.data.toList)) (w : World) :
    Calls Tryf.prog 4 #[.int .i64 kept, .string n1, .string n2, .int .i64 line] w fun e w' => e = .returned (.bool true) ∧ Below w.heap.size w w' := by
  have hb : n1.size + n2.size ≤ 1048576 := of_decide_eq_true hB
  have hpn := ptr_neq_same
  go_enter Tryf.func4, Tryf.ntmps4
  go_wp2_with (first | (go_at_call 18; refine (zzBytes_any _ _ n1 n2 M1.out M2.out _).mono ?_; rintro e w0 ⟨rfl, rfl⟩))
  refine (newComposer_any _ _).mono ?_
  rintro e w1 ⟨rfl, hc1, ht1, hz1⟩
  have HC1 := hide hc1
  have HT1 := hide ht1
  clear hc1 ht1
  go_wp2_with fail
  refine (zzOpen_same (openAnchor_new (unhide HC1) (by unfold maxLen; omega) n1 M1.out line rfl hk0 (by omega))).mono ?_
  rintro e w2 ⟨rfl, hc2, ha2, ht2, hz2⟩
  rw [hz1] at hc2 ha2 hz2
  have HC2 : Hid (Comp w2 (w0.heap.size + 1) w0.heap.size (upd (fun _ => none) n1.data.toList (.pointer (some ⟨w0.heap.size + 2, 0, none⟩))) 1 (kept + n1.size)) := hc2
  have HA2 := hide ha2
  have HT2 : Hid (Turn [w0.heap.size + 1, w0.heap.size] w0 w2) := ((unhide HT1).mono (by simp)).trans ht2
  clear hc2 ha2 ht2 HC1 HT1
  replace hz2 : w2.heap.size = w0.heap.size + 3 := hz2
  go_wp2_with (first | (go_at_call 12; refine (kept_any (unhide HC2)).mono ?_; rintro e w2 ⟨rfl, rfl⟩) | (go_at_call 13; refine (count_any (unhide HC2)).mono ?_; rintro e w2 ⟨rfl, rfl⟩) | (go_at_call 10; refine (anchorOf_at (unhide HC2) n1 M1.out (upd_same _ _ _)).mono ?_; rintro e w2 ⟨rfl, rfl⟩))
  refine (zzOpen_same (openAnchor_new (unhide HC2) (by unfold maxLen; omega) n2 M2.out line (by rw [upd_other _ _ (unhide hnd)]) (by omega) (by omega))).mono ?_
  rintro e w3 ⟨rfl, hc3, ha3, ht3, hz3⟩
  rw [hz2] at hc3 ha3 hz3
  have HC3 : Hid (Comp w3 (w0.heap.size + 1) w0.heap.size _ 2 (kept + n1.size + n2.size)) := hc3
  have HA3 := hide ha3
  have HB3 := hide ((unhide HA2).turn ht3 (by simp))
  have e3 := ptr_eql_other ha3 (unhide HB3) (by omega)
  have HT3 := hide ((unhide HT2).trans ht3)
  clear hc3 ha3 ht3 HC2 HT2 HA2
  replace hz3 : w3.heap.size = w0.heap.size + 4 := hz3
  go_wp2_with (first | (go_at_call 12; refine (kept_any (unhide HC3)).mono ?_; rintro e w3 ⟨rfl, rfl⟩) | (go_at_call 13; refine (count_any (unhide HC3)).mono ?_; rintro e w3 ⟨rfl, rfl⟩) | (go_at_call 10; refine (anchorOf_at (unhide HC3) n2 M2.out (upd_same _ _ _)).mono ?_; rintro e w3 ⟨rfl, rfl⟩))
  refine (zzOpen_same (openAnchor_old (unhide HC3) (by unfold maxLen; omega) n1 M1.out line (by rw [upd_other _ _ (unhide hnd).symm]; exact upd_same _ _ _) (unhide HB3) (by omega) (by omega))).mono ?_
  rintro e w4 ⟨rfl, hc4, ha4, ht4, hz4⟩
  rw [hz3] at hc4 ha4 hz4
  rw [show kept + (n1.size : Int) + n2.size - ((0 : Nat) : Int) = kept + n1.size + n2.size from by omega] at hc4
  have HC4 := hide hc4
  have HA4 := hide ha4
  have HB4 := hide ((unhide HB3).turn ht4 (by simp))
  have HD4 := hide ((unhide HA3).turn ht4 (by simp))
  have e4 := ptr_eql_other ha4 (unhide HB4) (by omega)
  have e5 := ptr_eql_other ha4 (unhide HD4) (by omega)
  have HT4 := hide ((unhide HT3).trans ht4)
  clear hc4 ha4 ht4 HC3 HT3 HA3 HB3
  replace hz4 : w4.heap.size = w0.heap.size + 5 := hz4
  go_wp2_with (first | (go_at_call 12; refine (kept_any (unhide HC4)).mono ?_; rintro e w4 ⟨rfl, rfl⟩) | (go_at_call 13; refine (count_any (unhide HC4)).mono ?_; rintro e w4 ⟨rfl, rfl⟩) | (go_at_call_of 10 (Value.string n1); refine (anchorOf_at (unhide HC4) n1 M1.out (upd_same _ _ _)).mono ?_; rintro e w4 ⟨rfl, rfl⟩))
  refine (anchorOf_at (unhide HC4) n2 M2.out (by rw [upd_other _ _ (unhide hnd)]; exact upd_same _ _ _)).mono ?_
  rintro e w4 ⟨rfl, rfl⟩
  go_wp2_with fail
  refine (open_any (unhide HB4)).mono ?_
  rintro e w4 ⟨rfl, rfl⟩
  go_wp2_with fail
  refine (open_any (unhide HD4)).mono ?_
  rintro e w4 ⟨rfl, rfl⟩
  go_wp2_with fail
  refine (open_any (unhide HA4)).mono ?_
  rintro e w4 ⟨rfl, rfl⟩
  go_wp2
  go_ret
  exact ⟨rfl, (unhide HT4).below (Nat.le_refl _) (by simp)⟩

set_option maxRecDepth 100000 in
set_option maxHeartbeats 1000000 in
theorem reopen_same (kept : Int) (n1 : ByteArray) (line : Int) (M1 : Hid (n1.size ≤ maxLen)) (hB : bytesB n1 n1 = true) (hk0 : 0 ≤ kept) (hk1 : kept ≤ 3145728 - (n1.size : Int) - n1.size) (w : World) :
    Calls Tryf.prog 4 #[.int .i64 kept, .string n1, .string n1, .int .i64 line] w fun e w' => e = .returned (.bool true) ∧ Below w.heap.size w w' := by
  have hb : n1.size + n1.size ≤ 1048576 := of_decide_eq_true hB
  have hpn := ptr_neq_same
  have hne : (n1.toList == n1.toList) = true := by simp
  go_enter Tryf.func4, Tryf.ntmps4
  go_wp2_with (first | (go_at_call 18; refine (zzBytes_any _ _ n1 n1 M1.out M1.out _).mono ?_; rintro e w0 ⟨rfl, rfl⟩))
  refine (newComposer_any _ _).mono ?_
  rintro e w1 ⟨rfl, hc1, ht1, hz1⟩
  have HC1 := hide hc1
  have HT1 := hide ht1
  clear hc1 ht1
  go_wp2_with fail
  refine (zzOpen_same (openAnchor_new (unhide HC1) (by unfold maxLen; omega) n1 M1.out line rfl hk0 (by omega))).mono ?_
  rintro e w2 ⟨rfl, hc2, ha2, ht2, hz2⟩
  rw [hz1] at hc2 ha2 hz2
  have HC2 : Hid (Comp w2 (w0.heap.size + 1) w0.heap.size (upd (fun _ => none) n1.data.toList (.pointer (some ⟨w0.heap.size + 2, 0, none⟩))) 1 (kept + n1.size)) := hc2
  have HA2 := hide ha2
  have HT2 : Hid (Turn [w0.heap.size + 1, w0.heap.size] w0 w2) := ((unhide HT1).mono (by simp)).trans ht2
  clear hc2 ha2 ht2 HC1 HT1
  replace hz2 : w2.heap.size = w0.heap.size + 3 := hz2
  go_wp2_with (first | (go_at_call 12; refine (kept_any (unhide HC2)).mono ?_; rintro e w2 ⟨rfl, rfl⟩) | (go_at_call 13; refine (count_any (unhide HC2)).mono ?_; rintro e w2 ⟨rfl, rfl⟩) | (go_at_call 10; refine (anchorOf_at (unhide HC2) n1 M1.out (upd_same _ _ _)).mono ?_; rintro e w2 ⟨rfl, rfl⟩))
  refine (zzOpen_same (openAnchor_old (unhide HC2) (by unfold maxLen; omega) n1 M1.out line (upd_same _ _ _) (unhide HA2) (by omega) (by omega))).mono ?_
  rintro e w3 ⟨rfl, hc3, ha3, ht3, hz3⟩
  rw [hz2] at hc3 ha3 hz3
  rw [show kept + (n1.size : Int) - ((0 : Nat) : Int) = kept + n1.size from by omega] at hc3
  have HC3 := hide hc3
  have HA3 := hide ha3
  have HB3 := hide ((unhide HA2).turn ht3 (by simp))
  have e3 := ptr_eql_other ha3 (unhide HB3) (by omega)
  have HT3 := hide ((unhide HT2).trans ht3)
  clear hc3 ha3 ht3 HC2 HT2 HA2
  replace hz3 : w3.heap.size = w0.heap.size + 4 := hz3
  go_wp2_with (first | (go_at_call 12; refine (kept_any (unhide HC3)).mono ?_; rintro e w3 ⟨rfl, rfl⟩) | (go_at_call 13; refine (count_any (unhide HC3)).mono ?_; rintro e w3 ⟨rfl, rfl⟩) | (go_at_call 10; refine (anchorOf_at (unhide HC3) n1 M1.out (upd_same _ _ _)).mono ?_; rintro e w3 ⟨rfl, rfl⟩))
  refine (zzOpen_same (openAnchor_old (unhide HC3) (by unfold maxLen; omega) n1 M1.out line (upd_same _ _ _) (unhide HA3) (by omega) (by omega))).mono ?_
  rintro e w4 ⟨rfl, hc4, ha4, ht4, hz4⟩
  rw [hz3] at hc4 ha4 hz4
  rw [show kept + (n1.size : Int) - ((0 : Nat) : Int) = kept + n1.size from by omega] at hc4
  have HC4 := hide hc4
  have HA4 := hide ha4
  have HB4 := hide ((unhide HB3).turn ht4 (by simp))
  have HD4 := hide ((unhide HA3).turn ht4 (by simp))
  have e4 := ptr_eql_other ha4 (unhide HB4) (by omega)
  have e5 := ptr_eql_other ha4 (unhide HD4) (by omega)
  have HT4 := hide ((unhide HT3).trans ht4)
  clear hc4 ha4 ht4 HC3 HT3 HA3 HB3
  replace hz4 : w4.heap.size = w0.heap.size + 5 := hz4
  go_wp2_with (first | (go_at_call 12; refine (kept_any (unhide HC4)).mono ?_; rintro e w4 ⟨rfl, rfl⟩) | (go_at_call 13; refine (count_any (unhide HC4)).mono ?_; rintro e w4 ⟨rfl, rfl⟩) | (go_at_call 10; refine (anchorOf_at (unhide HC4) n1 M1.out (upd_same _ _ _)).mono ?_; rintro e w4 ⟨rfl, rfl⟩))
  refine (open_any (unhide HB4)).mono ?_
  rintro e w4 ⟨rfl, rfl⟩
  go_wp2_with fail
  refine (open_any (unhide HD4)).mono ?_
  rintro e w4 ⟨rfl, rfl⟩
  go_wp2_with fail
  refine (open_any (unhide HA4)).mono ?_
  rintro e w4 ⟨rfl, rfl⟩
  go_wp2
  go_ret
  exact ⟨rfl, (unhide HT4).below (Nat.le_refl _) (by simp)⟩

set_option maxRecDepth 100000 in
set_option maxHeartbeats 1000000 in
theorem reopen_walk (kept : Int) (n1 n2 : ByteArray) (line : Int) (h1 : n1.size ≤ maxLen) (h2 : n2.size ≤ maxLen) (w : World) :
    Calls Tryf.prog 4 #[.int .i64 kept, .string n1, .string n2, .int .i64 line] w fun e w' => e = .returned (.bool true) ∧ Below w.heap.size w w' := by
  have M1 : Hid (n1.size ≤ maxLen) := h1
  have M2 : Hid (n2.size ≤ maxLen) := h2
  cases hB : bytesB n1 n2
  · go_enter Tryf.func4, Tryf.ntmps4
    go_wp2_with (first | (go_at_call 18; refine (zzBytes_any _ _ n1 n2 M1.out M2.out _).mono ?_; rintro e w' ⟨rfl, rfl⟩))
    go_ret
    exact ⟨rfl, Below.refl _ _⟩
  have hb : n1.size + n2.size ≤ 1048576 := of_decide_eq_true hB
  clear h1 h2
  by_cases hk0 : kept < 0
  · go_enter Tryf.func4, Tryf.ntmps4
    go_wp2_with (first | (go_at_call 18; refine (zzBytes_any _ _ n1 n2 M1.out M2.out _).mono ?_; rintro e w' ⟨rfl, rfl⟩))
    all_goals
      go_ret
      exact ⟨rfl, Below.refl _ _⟩
  by_cases hk1 : 3145728 - (n1.size : Int) - n2.size < kept
  · go_enter Tryf.func4, Tryf.ntmps4
    go_wp2_with (first | (go_at_call 18; refine (zzBytes_any _ _ n1 n2 M1.out M2.out _).mono ?_; rintro e w' ⟨rfl, rfl⟩))
    all_goals
      go_ret
      exact ⟨rfl, Below.refl _ _⟩
  by_cases he : n2.data.toList = n1.data.toList
  · obtain rfl := WideShapes.bytes_inj he
    exact reopen_same kept n2 line M2 hB (by omega) (by omega) w
  · exact reopen_diff kept n1 n2 line M1 M2 hB (by omega) (by omega) (by rw [beq_eq_false_iff_ne, ByteArray.toList_eq, ByteArray.toList_eq]; exact he) (hide he) w

end Go.Proofs.Qxb6605750aFmt.anc
