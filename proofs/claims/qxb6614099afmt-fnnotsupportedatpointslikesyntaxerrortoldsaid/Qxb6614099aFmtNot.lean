/-
  notSupportedAt: the error's code and place. Ours.
-/
import Derived.Test.Qxb6614099aFmtErr
import Derived.Test.Qxb6614099aFmtCount
import Derived.Deep.RegionWith
import Derived.BigRegion
namespace Go.Proofs.Qxb6614099aFmt.sq
open Go.RowKit Go.Extern.Stop Go.Stop Go.Extern

/-- the error at block b: its code, its place; no detail, no hint -/
structure ErrIs (w : World) (b : Nat) (code : ByteArray) (pos : Int) : Prop where
  c0 : w.cell? ⟨b, 0, none⟩ = some (.string code)
  c2 : w.cell? ⟨b, 2, none⟩ = some (.string ⟨#[]⟩)
  c3 : w.cell? ⟨b, 3, none⟩ = some (.string ⟨#[]⟩)
  c4 : w.cell? ⟨b, 4, none⟩ = some (.int .i64 pos)

theorem cell_lt {w : World} {p : Addr} {v : Value} (h : w.cell? p = some v) : p.block < w.heap.size := by
  by_cases hlt : p.block < w.heap.size
  · exact hlt
  · rw [World.cell?, Array.getElem?_eq_none (by omega)] at h
    cases h
theorem ErrIs.lt {w : World} {b : Nat} {code : ByteArray} {pos : Int} (h : ErrIs w b code pos) : b < w.heap.size := cell_lt h.c0
theorem ErrIs.below {w w' : World} {b : Nat} {code : ByteArray} {pos : Int} (h : ErrIs w b code pos) (hb : Below w.heap.size w w') : ErrIs w' b code pos :=
  ⟨(hb.cell (p := ⟨b, 0, none⟩) h.lt).trans h.c0, (hb.cell (p := ⟨b, 2, none⟩) h.lt).trans h.c2, (hb.cell (p := ⟨b, 3, none⟩) h.lt).trans h.c3, (hb.cell (p := ⟨b, 4, none⟩) h.lt).trans h.c4⟩

theorem position_b (q : ByteArray) (pos : Nat) (w : World) (hq : q.size ≤ 1048576) (hp : pos ≤ q.size) :
    Calls Tryf.prog 15 #[.string q, .int .i64 pos] w fun e w' => e = .returned (.int .i64 ((Lib.runeCount (q.extract 0 pos) : Int) + 1)) ∧ Below w.heap.size w w' ∧ w'.heap.size = w.heap.size + 1 := by
  refine (position_any q pos w hq hp).mono ?_
  rintro e w' ⟨rfl, p, rfl⟩
  exact ⟨rfl, (Below.refl _ _).alloc (Nat.le_refl _) _, by simp [World.iter]⟩

/-- the place that is told: one more than the runes ahead of it -/
def place (q : ByteArray) (pos : Nat) : Int := (Lib.runeCount (q.extract 0 pos) : Int) + 1

set_option maxRecDepth 100000 in
set_option maxHeartbeats 1000000 in
theorem notSupportedAt_any (F : Interp) (pb : Nat) (q text f : ByteArray) (kind fin : Int) (pos : Nat) (w : World) (hF : F.answers w.tape) (hp : w.cell? ⟨pb, 0, none⟩ = some (.string q)) (hq : q.size ≤ 1048576) (hpos : pos ≤ q.size) :
    Calls Tryf.prog 11 #[.pointer (some ⟨pb, 0, none⟩), .agg #[.int .i64 kind, .string text, .int .i64 pos, .int .i64 fin], .string f, .slice none 0 0] w fun e w' =>
      e = .returned (.pointer (some ⟨w.heap.size + 1, 0, none⟩)) ∧ ErrIs w' (w.heap.size + 1) ⟨#[48, 65, 48, 48, 48]⟩ (place q pos) ∧ Below w.heap.size w w' := by
  have HF := hide hF
  have hlt : pb < w.heap.size := cell_lt hp
  clear hF
  go_enter Tryf.func11, Tryf.ntmps11
  go_wp2_with fail
  refine Calls.mono (errorf_any F _ _ _ ?_) ?_
  · exact unhide HF
  rintro e w1 ⟨msg, rfl, rfl⟩
  go_wp2_with fail
  go_region_with (go_at_call 15; refine (position_b q pos _ hq hpos).mono ?_; rintro e w2 ⟨rfl, hb2, hz2⟩; have hc2 : w2.cell? ⟨w.heap.size + 1, 4, none⟩ = some (.int .i64 0) := (hb2.cell (p := ⟨w.heap.size + 1, 4, none⟩) (by simp)).trans (by go_simp); have hf2 : w2.frozen? ⟨w.heap.size + 1, 4, none⟩ = false := (hb2.frozen (p := ⟨w.heap.size + 1, 4, none⟩) (by simp)).trans (by go_simp); have HB2 := hide hb2; clear hb2)
  all_goals
    have hb := unhide HB2
    have d0 : w2.cell? ⟨w.heap.size + 1, 0, none⟩ = some (.string ⟨#[48, 65, 48, 48, 48]⟩) := (hb.cell (p := ⟨w.heap.size + 1, 0, none⟩) (by simp)).trans (by go_simp)
    have d2 : w2.cell? ⟨w.heap.size + 1, 2, none⟩ = some (.string ⟨#[]⟩) := (hb.cell (p := ⟨w.heap.size + 1, 2, none⟩) (by simp)).trans (by go_simp)
    have d3 : w2.cell? ⟨w.heap.size + 1, 3, none⟩ = some (.string ⟨#[]⟩) := (hb.cell (p := ⟨w.heap.size + 1, 3, none⟩) (by simp)).trans (by go_simp)
    have HE : Hid (ErrIs (w2.setCell ⟨w.heap.size + 1, 4, none⟩ (.int .i64 ((Lib.runeCount (q.extract 0 pos) : Int) + 1))) (w.heap.size + 1) ⟨#[48, 65, 48, 48, 48]⟩ (place q pos)) :=
      ⟨(World.cell?_setCell_other w2 _ _ _ (by simp)).trans d0, (World.cell?_setCell_other w2 _ _ _ (by simp)).trans d2, (World.cell?_setCell_other w2 _ _ _ (by simp)).trans d3, World.cell?_setCell_same w2 _ _ hc2⟩
    have HB : Hid (Below w.heap.size w (w2.setCell ⟨w.heap.size + 1, 4, none⟩ (.int .i64 ((Lib.runeCount (q.extract 0 pos) : Int) + 1)))) := by
      refine Below.setCell (Below.trans ?_ (hb.mono (by simp; omega))) (Nat.le_succ _) _
      repeat (first | exact Below.refl _ _ | apply Below.drew | (refine Below.alloc ?_ (by simp) _))
    clear hb d0 d2 d3 hc2 hf2 HB2 hz2
    go_wp2
    go_ret
    exact ⟨rfl, unhide HE, unhide HB⟩

set_option maxRecDepth 100000 in
set_option maxHeartbeats 1000000 in
theorem zzNot_any (F : Interp) (q text f : ByteArray) (kind fin : Int) (pos : Nat) (w : World) (hF : F.answers w.tape) (hq : q.size ≤ 1048576) (hpos : pos ≤ q.size) :
    Calls Tryf.prog 7 #[.string q, .int .i64 kind, .string text, .int .i64 pos, .int .i64 fin, .string f] w fun e w' =>
      ∃ b, w.heap.size ≤ b ∧ e = .returned (.pointer (some ⟨b, 0, none⟩)) ∧ ErrIs w' b ⟨#[48, 65, 48, 48, 48]⟩ (place q pos) ∧ Below w.heap.size w w' := by
  have HF := hide hF
  clear hF
  go_enter Tryf.func7, Tryf.ntmps7
  go_wp2_with fail
  refine Calls.mono (notSupportedAt_any F w.heap.size q text f kind fin pos _ ?_ ?_ hq hpos) ?_
  · exact unhide HF
  · simp
  rintro e w1 ⟨rfl, hE, hB⟩
  have HE : Hid (ErrIs w1 (w.heap.size + 1 + 1) ⟨#[48, 65, 48, 48, 48]⟩ (place q pos)) := hide (by simpa using hE)
  have HB := hide (((Below.refl w.heap.size w).alloc (Nat.le_refl _) _).trans (hB.mono (by simp)))
  clear hE hB
  go_wp2
  go_ret
  exact ⟨w.heap.size + 1 + 1, by omega, rfl, unhide HE, unhide HB⟩
end Go.Proofs.Qxb6614099aFmt.sq
