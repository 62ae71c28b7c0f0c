/-
  unexpected: the code and the place of the error that the parser reports. Ours.
-/
import Derived.Test.Qxb6614099aFmtNot
import Derived.RegionTactic
import Derived.ChangeAlike
namespace Go.Proofs.Qxb6614099aFmt.sq
open Go.RowKit Go.Extern.Stop Go.Stop Go.Extern

set_option maxRecDepth 100000 in
set_option maxHeartbeats 1000000 in
theorem synAt_any (q msg : ByteArray) (pos : Nat) (w : World) (hq : q.size ≤ 1048576) (hpos : pos ≤ q.size) :
    Calls Tryf.prog 17 #[.string q, .int .i64 pos, .string msg] w fun e w' =>
      e = .returned (.pointer (some ⟨w.heap.size + 1, 0, none⟩)) ∧ ErrIs w' (w.heap.size + 1) ⟨#[52, 50, 54, 48, 49]⟩ (place q pos) ∧ Below w.heap.size w w' := by
  go_enter Tryf.func17, Tryf.ntmps17
  go_wp2_with fail
  refine (position_b q pos _ hq hpos).mono ?_
  rintro e w1 ⟨rfl, hb1, hz1⟩
  have HB := hide hb1
  clear hb1
  go_wp2
  go_ret
  have hb := unhide HB
  refine ⟨rfl, ⟨?_, ?_, ?_, ?_⟩, hb.alloc hb.size _⟩
  all_goals
    rw [World.cell?_alloc_at _ _ _ _ hz1.symm]
    rfl

set_option maxRecDepth 100000 in
set_option maxHeartbeats 1000000 in
theorem synNear_any (q : ByteArray) (pos fin : Nat) (w : World) (hq : q.size ≤ 1048576) (hpos : pos ≤ fin) (hfin : fin ≤ q.size) :
    Calls Tryf.prog 18 #[.string q, .int .i64 pos, .int .i64 fin] w fun e w' =>
      e = .returned (.pointer (some ⟨w.heap.size + 1, 0, none⟩)) ∧ ErrIs w' (w.heap.size + 1) ⟨#[52, 50, 54, 48, 49]⟩ (place q pos) ∧ Below w.heap.size w w' := by
  go_enter Tryf.func18, Tryf.ntmps18
  go_wp2_with fail
  refine (synAt_any q _ pos _ hq (by omega)).mono ?_
  rintro e w1 ⟨rfl, hE, hb⟩
  have HE := hide hE
  have HB := hide hb
  clear hE hb
  go_wp2
  go_ret
  exact ⟨rfl, unhide HE, unhide HB⟩

set_option maxRecDepth 100000 in
set_option maxHeartbeats 1000000 in
theorem peek_any (pb tb : Nat) (kind fin pos : Int) (text : ByteArray) (w : World) (h1 : w.cell? ⟨pb, 1, none⟩ = some (.slice (some ⟨tb, 0, none⟩) 1 1)) (h2 : w.cell? ⟨pb, 2, none⟩ = some (.int .i64 0))
    (t0 : w.cell? ⟨tb, 0, none⟩ = some (.int .i64 kind)) (t1 : w.cell? ⟨tb, 1, none⟩ = some (.string text)) (t2 : w.cell? ⟨tb, 2, none⟩ = some (.int .i64 pos)) (t3 : w.cell? ⟨tb, 3, none⟩ = some (.int .i64 fin)) :
    Calls Tryf.prog 16 #[.pointer (some ⟨pb, 0, none⟩)] w fun e w' => e = .returned (.agg #[.int .i64 kind, .string text, .int .i64 pos, .int .i64 fin]) ∧ Below w.heap.size w w' ∧ w'.heap.size = w.heap.size + 1 := by
  have hpl : pb < w.heap.size := cell_lt h1
  have htl : tb < w.heap.size := cell_lt t0
  go_enter Tryf.func16, Tryf.ntmps16
  go_wp2
  go_region
  go_wp2
  exact bodyPost_ret (v := .agg #[.int .i64 kind, .string text, .int .i64 pos, .int .i64 fin]) (by simp [results, Tryf.results16, go_sem]) rfl ⟨rfl, ((Below.refl _ _).alloc (Nat.le_refl _) _).drew, by simp⟩

set_option maxRecDepth 100000 in
set_option maxHeartbeats 1000000 in
theorem unexpected_any (pb tb : Nat) (q text : ByteArray) (kind : Int) (pos fin : Nat) (w : World) (h0 : w.cell? ⟨pb, 0, none⟩ = some (.string q)) (h1 : w.cell? ⟨pb, 1, none⟩ = some (.slice (some ⟨tb, 0, none⟩) 1 1)) (h2 : w.cell? ⟨pb, 2, none⟩ = some (.int .i64 0))
    (t0 : w.cell? ⟨tb, 0, none⟩ = some (.int .i64 kind)) (t1 : w.cell? ⟨tb, 1, none⟩ = some (.string text)) (t2 : w.cell? ⟨tb, 2, none⟩ = some (.int .i64 pos)) (t3 : w.cell? ⟨tb, 3, none⟩ = some (.int .i64 fin))
    (hq : q.size ≤ 1048576) (hpos : pos ≤ fin) (hfin : fin ≤ q.size) :
    Calls Tryf.prog 12 #[.pointer (some ⟨pb, 0, none⟩)] w fun e w' =>
      ∃ b, w.heap.size ≤ b ∧ e = .returned (.pointer (some ⟨b, 0, none⟩)) ∧ ErrIs w' b ⟨#[52, 50, 54, 48, 49]⟩ (place q pos) ∧ Below w.heap.size w w' := by
  have hpl : pb < w.heap.size := cell_lt h0
  have HP := hide (peek_any pb tb kind fin pos text w h1 h2 t0 t1 t2 t3)
  clear h1 h2 t0 t1 t2 t3
  cases hk : (kind == 0)
  · go_enter Tryf.func12, Tryf.ntmps12
    go_wp2_with fail
    refine (unhide HP).mono ?_
    rintro e w1 ⟨rfl, hb1, hz1⟩
    have hc1 := (hb1.cell (p := ⟨pb, 0, none⟩) hpl).trans h0
    have HB1 := hide hb1
    clear hb1 HP
    go_wp2_with fail
    go_region_with (go_at_call 18; refine (synNear_any q pos fin _ hq hpos hfin).mono ?_; rintro e w2 ⟨rfl, hE2, hb2⟩; have HE2 := hide hE2; have HB2 := hide hb2; clear hE2 hb2)
    all_goals
      have HE : Hid (ErrIs w2 (w.heap.size + 1 + 1 + 1) ⟨#[52, 50, 54, 48, 49]⟩ (place q pos)) := hide (by have h := unhide HE2; simp [hz1] at h; exact h)
      have HB : Hid (Below w.heap.size w w2) := hide (by
        refine Below.trans ?_ ((unhide HB2).mono (by simp [hz1]; omega))
        repeat (first | exact unhide HB1 | apply Below.drew | (refine Below.alloc ?_ (by simp [hz1]) _)))
      clear HE2 HB2 HB1
      go_wp2
      go_ret
      exact ⟨w.heap.size + 1 + 1 + 1, by omega, rfl, unhide HE, unhide HB⟩
  · go_enter Tryf.func12, Tryf.ntmps12
    go_wp2_with fail
    refine (unhide HP).mono ?_
    rintro e w1 ⟨rfl, hb1, hz1⟩
    have hc1 := (hb1.cell (p := ⟨pb, 0, none⟩) hpl).trans h0
    have HB1 := hide hb1
    clear hb1 HP
    go_wp2_with fail
    go_region_with (go_at_call 17; refine (synAt_any q _ pos _ hq (by omega)).mono ?_; rintro e w2 ⟨rfl, hE2, hb2⟩; have HE2 := hide hE2; have HB2 := hide hb2; clear hE2 hb2)
    all_goals
      have HE : Hid (ErrIs w2 (w.heap.size + 1 + 1 + 1) ⟨#[52, 50, 54, 48, 49]⟩ (place q pos)) := hide (by have h := unhide HE2; simp [hz1] at h; exact h)
      have HB : Hid (Below w.heap.size w w2) := hide (by
        refine Below.trans ?_ ((unhide HB2).mono (by simp [hz1]; omega))
        repeat (first | exact unhide HB1 | apply Below.drew | (refine Below.alloc ?_ (by simp [hz1]) _)))
      clear HE2 HB2 HB1
      go_wp2
      go_ret
      exact ⟨w.heap.size + 1 + 1 + 1, by omega, rfl, unhide HE, unhide HB⟩

set_option maxRecDepth 100000 in
set_option maxHeartbeats 1000000 in
theorem zzUnexp_any (q text : ByteArray) (kind : Int) (pos fin : Nat) (w : World) (hq : q.size ≤ 1048576) (hpos : pos ≤ fin) (hfin : fin ≤ q.size) :
    Calls Tryf.prog 8 #[.string q, .int .i64 kind, .string text, .int .i64 pos, .int .i64 fin] w fun e w' =>
      ∃ b, w.heap.size ≤ b ∧ e = .returned (.pointer (some ⟨b, 0, none⟩)) ∧ ErrIs w' b ⟨#[52, 50, 54, 48, 49]⟩ (place q pos) ∧ Below w.heap.size w w' := by
  go_enter Tryf.func8, Tryf.ntmps8
  go_wp2_with fail
  refine Calls.mono (unexpected_any (w.heap.size + 1) w.heap.size q text kind pos fin _ ?_ ?_ ?_ ?_ ?_ ?_ ?_ hq hpos hfin) ?_
  case refine_8 =>
    rintro e w1 ⟨b, hb0, rfl, hE, hB⟩
    have hb0' : w.heap.size ≤ b := by simp at hb0; omega
    have HE := hide hE
    have HB : Hid (Below w.heap.size w w1) := hide (Below.trans (((Below.refl _ _).alloc (Nat.le_refl _) _).alloc (by simp) _) (hB.mono (by simp; omega)))
    clear hE hB hb0
    go_wp2
    go_ret
    exact ⟨b, hb0', rfl, unhide HE, unhide HB⟩
  all_goals go_simp
end Go.Proofs.Qxb6614099aFmt.sq
