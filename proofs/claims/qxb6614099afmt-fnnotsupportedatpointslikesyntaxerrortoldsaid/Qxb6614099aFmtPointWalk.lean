/-
  The walk of FnNotSupportedAtPointsLikeSyntaxError. Ours.
-/
import Derived.Test.Qxb6614099aFmtCutWalk
import Derived.Test.Qxb6614099aFmtUnexp
namespace Go.Proofs.Qxb6614099aFmt.sq
open Go.RowKit Go.Extern.Stop Go.Stop Go.Extern

set_option maxRecDepth 100000 in
set_option maxHeartbeats 2000000 in
theorem point_walk (F : Interp) (q t f : ByteArray) (kind pos fin : Int) (w : World) (hF : F.answers w.tape) (hq : q.size ≤ maxLen) (ht : t.size ≤ maxLen) (hf : f.size ≤ maxLen) :
    Calls Tryf.prog 3 #[.string q, .int .i64 kind, .string t, .int .i64 pos, .int .i64 fin, .string f] w fun e w' => e = .returned (.bool true) ∧ Below w.heap.size w w' := by
  have HF := hide hF
  have HQ := hide hq
  have HT := hide ht
  have HM := hide hf
  clear hF
  unfold maxLen at hq ht hf
  cases hB : lenB q t f
  · go_enter Tryf.func3, Tryf.ntmps3
    go_wp2_with (first | (go_at_call 5; refine (bytes5 q t f _ _ _ _ (unhide HQ) (unhide HT) (unhide HM)).mono ?_; rintro e w0 ⟨rfl, rfl⟩))
    go_ret
    exact ⟨rfl, Below.refl _ _⟩
  have hb : q.size + t.size + f.size ≤ 1048576 := of_decide_eq_true hB
  by_cases hp0 : pos < 0
  · go_enter Tryf.func3, Tryf.ntmps3
    go_wp2_with (first | (go_at_call 5; refine (bytes5 q t f _ _ _ _ (unhide HQ) (unhide HT) (unhide HM)).mono ?_; rintro e w0 ⟨rfl, rfl⟩) | (go_at_call 6; refine (addLen_in _ _ _ (by omega) (by omega) (by omega) (by omega)).mono ?_; rintro e w0 ⟨rfl, rfl⟩))
    all_goals
      go_ret
      exact ⟨rfl, Below.refl _ _⟩
  by_cases hp1 : fin < pos
  · go_enter Tryf.func3, Tryf.ntmps3
    go_wp2_with (first | (go_at_call 5; refine (bytes5 q t f _ _ _ _ (unhide HQ) (unhide HT) (unhide HM)).mono ?_; rintro e w0 ⟨rfl, rfl⟩) | (go_at_call 6; refine (addLen_in _ _ _ (by omega) (by omega) (by omega) (by omega)).mono ?_; rintro e w0 ⟨rfl, rfl⟩))
    all_goals
      go_ret
      exact ⟨rfl, Below.refl _ _⟩
  by_cases hp2 : (q.size : Int) < fin
  · go_enter Tryf.func3, Tryf.ntmps3
    go_wp2_with (first | (go_at_call 5; refine (bytes5 q t f _ _ _ _ (unhide HQ) (unhide HT) (unhide HM)).mono ?_; rintro e w0 ⟨rfl, rfl⟩) | (go_at_call 6; refine (addLen_in _ _ _ (by omega) (by omega) (by omega) (by omega)).mono ?_; rintro e w0 ⟨rfl, rfl⟩))
    all_goals
      go_ret
      exact ⟨rfl, Below.refl _ _⟩
  obtain ⟨p, rfl⟩ := Int.eq_ofNat_of_zero_le (show 0 ≤ pos by omega)
  obtain ⟨c, rfl⟩ := Int.eq_ofNat_of_zero_le (show 0 ≤ fin by omega)
  clear hp0
  go_enter Tryf.func3, Tryf.ntmps3
  go_wp2_with (first | (go_at_call 5; refine (bytes5 q t f _ _ _ _ (unhide HQ) (unhide HT) (unhide HM)).mono ?_; rintro e w0 ⟨rfl, rfl⟩) | (go_at_call 6; refine (addLen_in _ _ _ (by omega) (by omega) (by omega) (by omega)).mono ?_; rintro e w0 ⟨rfl, rfl⟩))
  refine (zzNot_any F q t f kind c p _ (unhide HF) (by omega) (by omega)).mono ?_
  rintro e w1 ⟨b1, hb1, rfl, hE1, hB1⟩
  have HE1 := hide hE1
  have HB1 := hide hB1
  clear hE1 hB1
  go_wp2_with fail
  refine (zzUnexp_any q t kind p c _ (by omega) (by omega) (by omega)).mono ?_
  rintro e w2 ⟨b2, hb2, rfl, hE2, hB2⟩
  obtain ⟨e0, e2, e3, e4⟩ := (unhide HE1).below hB2
  obtain ⟨f0, f2, f3, f4⟩ := hE2
  have HB := hide ((unhide HB1).trans (hB2.mono (unhide HB1).size))
  have hle := Lib.runeCount_le (q.extract 0 p)
  have hle' : Lib.runeCount (q.extract 0 p) ≤ 1048576 := by simp at hle; omega
  unfold place at e4 f4
  clear hB2 hle HE1 HB1
  have hps : (q.extract 0 p).size ≤ 1048576 := by simp; omega
  go_wp2_with (go_at_call 9; refine (runeCount_any (q.extract 0 p) _ hps).mono ?_; rintro e w3 ⟨rfl, rfl⟩)
  go_ret
  exact ⟨rfl, unhide HB⟩
end Go.Proofs.Qxb6614099aFmt.sq
