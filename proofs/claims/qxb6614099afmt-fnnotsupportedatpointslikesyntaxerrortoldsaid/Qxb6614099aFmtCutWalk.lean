/-
  The guards, and the walk of FnNotSupportedAtIgnoresTextAfterCut. Ours.
-/
import Derived.Test.Qxb6614099aFmtNot
namespace Go.Proofs.Qxb6614099aFmt.sq
open Go.RowKit Go.Extern.Stop Go.Stop Go.Extern

theorem ret_bool {a b : Bool} (h : a = b) : Ending.returned (.bool a) = .returned (.bool b) := by rw [h]

/-- do the three lengths sum to at most 2^20? (plain) -/
def lenB (q t f : ByteArray) : Bool := decide (q.size + t.size + f.size ≤ 1048576)

set_option maxRecDepth 100000 in
set_option maxHeartbeats 1000000 in
theorem bytes5 (q t f : ByteArray) (kind pos fin : Int) (w : World) (hq : q.size ≤ maxLen) (ht : t.size ≤ maxLen) (hf : f.size ≤ maxLen) :
    Calls Tryf.prog 5 #[.string q, .int .i64 kind, .string t, .int .i64 pos, .int .i64 fin, .string f] w fun e w' => e = .returned (.bool (lenB q t f)) ∧ w' = w := by
  unfold maxLen at hq ht hf
  go_enter Tryf.func5, Tryf.ntmps5
  go_wp2
  all_goals
    go_ret
    refine ⟨ret_bool ?_, rfl⟩
    unfold lenB
    symm
    first | (rw [decide_eq_true_eq]; omega) | (rw [decide_eq_false_iff_not]; omega)

set_option maxRecDepth 100000 in
set_option maxHeartbeats 1000000 in
theorem bytes10 (q t f : ByteArray) (cut kind pos fin : Int) (w : World) (hq : q.size ≤ maxLen) (ht : t.size ≤ maxLen) (hf : f.size ≤ maxLen) :
    Calls Tryf.prog 10 #[.string q, .int .i64 cut, .int .i64 kind, .string t, .int .i64 pos, .int .i64 fin, .string f] w fun e w' => e = .returned (.bool (lenB q t f)) ∧ w' = w := by
  unfold maxLen at hq ht hf
  go_enter Tryf.func10, Tryf.ntmps10
  go_wp2
  all_goals
    go_ret
    refine ⟨ret_bool ?_, rfl⟩
    unfold lenB
    symm
    first | (rw [decide_eq_true_eq]; omega) | (rw [decide_eq_false_iff_not]; omega)

set_option maxHeartbeats 1000000 in
theorem addLen_in (a n : Int) (w : World) (ha0 : 0 ≤ a) (hn0 : 0 ≤ n) (ha : a ≤ 1048576) (hn : n ≤ 1048576) :
    Calls Tryf.prog 6 #[.int .i64 a, .int .i64 n] w fun e w' => e = .returned (.int .i64 (a + n)) ∧ w' = w := by
  go_enter Tryf.func6, Tryf.ntmps6
  go_wp2
  go_ret
  exact ⟨rfl, rfl⟩

theorem extract_extract (q : ByteArray) (a b : Nat) (h : a ≤ b) : (q.extract 0 b).extract 0 a = q.extract 0 a := by
  apply WideShapes.bytes_inj
  simp
  omega

set_option maxRecDepth 100000 in
set_option maxHeartbeats 2000000 in
theorem cut_walk (F : Interp) (q t f : ByteArray) (cut kind pos fin : Int) (w : World) (hF : F.answers w.tape) (hq : q.size ≤ maxLen) (ht : t.size ≤ maxLen) (hf : f.size ≤ maxLen) :
    Calls Tryf.prog 4 #[.string q, .int .i64 cut, .int .i64 kind, .string t, .int .i64 pos, .int .i64 fin, .string f] w fun e w' => e = .returned (.bool true) ∧ Below w.heap.size w w' := by
  have HF := hide hF
  have HQ := hide hq
  have HT := hide ht
  have HM := hide hf
  clear hF
  unfold maxLen at hq ht hf
  cases hB : lenB q t f
  · go_enter Tryf.func4, Tryf.ntmps4
    go_wp2_with (first | (go_at_call 10; refine (bytes10 q t f _ _ _ _ _ (unhide HQ) (unhide HT) (unhide HM)).mono ?_; rintro e w' ⟨rfl, rfl⟩))
    go_ret
    exact ⟨rfl, Below.refl _ _⟩
  have hb : q.size + t.size + f.size ≤ 1048576 := of_decide_eq_true hB
  by_cases hp0 : pos < 0
  · go_enter Tryf.func4, Tryf.ntmps4
    go_wp2_with (first | (go_at_call 10; refine (bytes10 q t f _ _ _ _ _ (unhide HQ) (unhide HT) (unhide HM)).mono ?_; rintro e w' ⟨rfl, rfl⟩) | (go_at_call 6; refine (addLen_in _ _ _ (by omega) (by omega) (by omega) (by omega)).mono ?_; rintro e w' ⟨rfl, rfl⟩))
    all_goals
      go_ret
      exact ⟨rfl, Below.refl _ _⟩
  by_cases hp1 : cut < pos
  · go_enter Tryf.func4, Tryf.ntmps4
    go_wp2_with (first | (go_at_call 10; refine (bytes10 q t f _ _ _ _ _ (unhide HQ) (unhide HT) (unhide HM)).mono ?_; rintro e w' ⟨rfl, rfl⟩) | (go_at_call 6; refine (addLen_in _ _ _ (by omega) (by omega) (by omega) (by omega)).mono ?_; rintro e w' ⟨rfl, rfl⟩))
    all_goals
      go_ret
      exact ⟨rfl, Below.refl _ _⟩
  by_cases hp2 : (q.size : Int) < cut
  · go_enter Tryf.func4, Tryf.ntmps4
    go_wp2_with (first | (go_at_call 10; refine (bytes10 q t f _ _ _ _ _ (unhide HQ) (unhide HT) (unhide HM)).mono ?_; rintro e w' ⟨rfl, rfl⟩) | (go_at_call 6; refine (addLen_in _ _ _ (by omega) (by omega) (by omega) (by omega)).mono ?_; rintro e w' ⟨rfl, rfl⟩))
    all_goals
      go_ret
      exact ⟨rfl, Below.refl _ _⟩
  obtain ⟨p, rfl⟩ := Int.eq_ofNat_of_zero_le (show 0 ≤ pos by omega)
  obtain ⟨c, rfl⟩ := Int.eq_ofNat_of_zero_le (show 0 ≤ cut by omega)
  clear hp0
  go_enter Tryf.func4, Tryf.ntmps4
  go_wp2_with (first | (go_at_call 10; refine (bytes10 q t f _ _ _ _ _ (unhide HQ) (unhide HT) (unhide HM)).mono ?_; rintro e w0 ⟨rfl, rfl⟩) | (go_at_call 6; refine (addLen_in _ _ _ (by omega) (by omega) (by omega) (by omega)).mono ?_; rintro e w0 ⟨rfl, rfl⟩))
  refine (zzNot_any F q t f kind fin p _ (unhide HF) (by omega) (by omega)).mono ?_
  rintro e w1 ⟨b1, hb1, rfl, hE1, hB1⟩
  have HE1 := hide hE1
  have HB1 := hide hB1
  clear hE1 hB1
  have HF1 : Hid (F.answers w1.tape) := by have h := unhide HF; rw [← (unhide HB1).tape] at h; exact h
  have hsz : (q.extract 0 c).size = c := by simp; omega
  have HZ := hide hsz
  clear hsz
  go_wp2_with fail
  refine (zzNot_any F (q.extract 0 c) t f kind fin p _ (unhide HF1) (by rw [unhide HZ]; omega) (by rw [unhide HZ]; omega)).mono ?_
  rintro e w2 ⟨b2, hb2, rfl, hE2, hB2⟩
  have hpl : place (q.extract 0 c) p = place q p := by unfold place; rw [extract_extract q p c (by omega)]
  rw [hpl] at hE2
  clear hpl
  obtain ⟨e0, e2, e3, e4⟩ := (unhide HE1).below hB2
  obtain ⟨f0, f2, f3, f4⟩ := hE2
  have HB := hide ((unhide HB1).trans (hB2.mono (unhide HB1).size))
  have hle := Lib.runeCount_le (q.extract 0 p)
  have hle' : Lib.runeCount (q.extract 0 p) ≤ 1048576 := by simp at hle; omega
  unfold place at e4 f4
  clear hB2 hle HE1 HB1
  have hps : (q.extract 0 p).size ≤ 1048576 := by simp; omega
  go_wp2_with (go_at_call 9; refine (runeCount_any (q.extract 0 p) _ hps).mono ?_; rintro e w3 ⟨rfl, rfl⟩)
  go_ret
  exact ⟨rfl, unhide HB⟩
end Go.Proofs.Qxb6614099aFmt.sq
