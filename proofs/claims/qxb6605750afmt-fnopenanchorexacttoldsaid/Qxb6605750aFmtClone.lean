/-
  zzCloneBytesB1 and zzSameBytesB1. Ours.
-/
import Derived.Test.Qxb6605750aFmtCells
import Derived.Deep.OwnRows
import Derived.Lib.SliceRun
import Derived.Deep.QuietTactic
import Derived.BigQuiet
namespace Go.Proofs.Qxb6605750aFmt.anc
open Go.RowKit Go.Maps

/-- block B is a row of l bytes of the call's own -/
def AllB (w : World) (B l : Nat) : Prop := ∃ C : Array Value, w.heap[B]? = some (.cells C 5 (0, 0)) ∧ C.size = l ∧ ∀ i, i < l → ∃ x, C[i]? = some (.int .u8 x)

theorem AllB.cell {w : World} {B l : Nat} (h : AllB w B l) {i : Nat} (hi : i < l) : ∃ x, w.cell? ⟨B, i, none⟩ = some (.int .u8 x) := by
  obtain ⟨C, hb, hs, hx⟩ := h
  obtain ⟨x, hx⟩ := hx i hi
  exact ⟨x, by simp [World.cell?, hb, hx]⟩
theorem AllB.fz {w : World} {B l : Nat} (h : AllB w B l) (i : Nat) : w.frozen? ⟨B, i, none⟩ = false := by
  obtain ⟨C, hb, hs, hx⟩ := h
  simp [World.frozen?, hb]
theorem AllB.set {w : World} {B l : Nat} (h : AllB w B l) (i : Nat) (x : Int) : AllB (w.setCell ⟨B, i, none⟩ (.int .u8 x)) B l := by
  obtain ⟨C, hb, hs, hx⟩ := h
  refine ⟨C.setIfInBounds i (.int .u8 x), ?_, by simp [hs], fun j hj => ?_⟩
  · simp [World.setCell, Array.getElem?_modify, hb]
  · by_cases e : i = j
    · subst e
      exact ⟨x, by rw [Array.getElem?_setIfInBounds_self_of_lt (by omega)]⟩
    · obtain ⟨y, hy⟩ := hx j hj
      exact ⟨y, by rw [Array.getElem?_setIfInBounds_ne e]; exact hy⟩
theorem AllB.made (w : World) (l : Nat) : AllB (w.alloc (.cells (madeCells #[.int .u8 0] l) 5)) w.heap.size l :=
  ⟨_, heap_new _ _, size_madeCells _ _, fun i hi => ⟨0, by simp [madeCells, hi, Nat.mod_one]⟩⟩

theorem info5 : (Tryf.prog.info? 5).map (fun i => (i.zero, i.size, i.bytes)) = some (some (.int .u8 0), 1, 1) := by kernel_rfl

/-- bytes: l cells that hold bytes -/
def Bytes (w : World) (a : Option Addr) (l : Nat) : Prop := ∀ k, k < l → ∃ b o x, a = some ⟨b, o, none⟩ ∧ w.cell? ⟨b, o + k, none⟩ = some (.int .u8 x)

theorem Bytes.below {w w' : World} {a : Option Addr} {l B : Nat} (h : Bytes w a l) (hb : Below B w w') (hB : ∀ b o, a = some ⟨b, o, none⟩ → b < B) : Bytes w' a l := by
  intro k hk
  obtain ⟨b, o, x, ha, hc⟩ := h k hk
  exact ⟨b, o, x, ha, (hb.cell (p := ⟨b, o + k, none⟩) (hB b o ha)).trans hc⟩
theorem Bytes.at {w : World} {a : Option Addr} {l : Nat} (h : Bytes w a l) {k : Nat} (hk : k < l) (cap : Nat) :
    ∃ b o x, (∀ wx, (Instr.indexAt 25 (.slice a l cap) (.int .i64 (k : Int))).run Tryf.prog wx = .ok (.pointer (some ⟨b, o + k, none⟩)) wx) ∧ w.cell? ⟨b, o + k, none⟩ = some (.int .u8 x) ∧ b < w.heap.size := by
  obtain ⟨b, o, x, rfl, hc⟩ := h k hk
  refine ⟨b, o, x, fun wx => ?_, hc, cell_lt hc⟩
  have hel : Tryf.prog.elem 25 = 5 := by simp [Program.elem, Tryf.underlying25]
  have hrun := run_indexAt_slice (P := Tryf.prog) wx 25 ⟨b, o, none⟩ l cap .i64 (k : Int) (by rw [hel]; exact Tryf.underlying25)
  rw [hrun, if_pos ⟨by omega, by omega⟩, hel, size5 wx]
  simp [Result.andThen, Addr.add]

set_option maxRecDepth 100000 in
set_option maxHeartbeats 1000000 in
theorem clone_some (a : Addr) (l c : Nat) (w : World) (hB : Bytes w (some a) l) (hl : l ≤ 1048576) :
    Calls Tryf.prog 6 #[.slice (some a) l c] w fun e w' => e = .returned (.slice (some ⟨w.heap.size, 0, none⟩) l l) ∧ AllB w' w.heap.size l ∧ Below w.heap.size w w' ∧ w'.heap.size = w.heap.size + 1 := by
  have he := fun wx => Lib.run_eql_slice_nil (P := Tryf.prog) wx 25 5 (some a) l c 0 0 Tryf.underlying25
  have hmk := run_make_row' (P := Tryf.prog) 25 5 (.int .u8 0) 1 Tryf.underlying25 info5 rfl .i64 .i64 l (by omega) (by omega)
  have HB := hide hB
  clear hB
  go_enter Tryf.func6, Tryf.ntmps6
  go_wp2
  go_loopw [4] (fun i wr => ∃ k : Nat, k ≤ l ∧ i = .int .i64 k ∧ AllB wr w.heap.size l ∧ Below w.heap.size w wr ∧ wr.heap.size = w.heap.size + 1) (fun i _ => l - (intOf i).toNat)
  case atStart => exact ⟨0, Nat.zero_le _, rfl, AllB.made w l, (Below.refl _ _).alloc (Nat.le_refl _) _, by simp⟩
  case round =>
    obtain ⟨k, hk, rfl, hA, hbl, hz⟩ := hrel
    by_cases hlt : k < l
    · obtain ⟨b, o, x, hi, hc, hlb⟩ := (unhide HB).at hlt c
      obtain ⟨y, hy⟩ := hA.cell hlt
      have hf := hA.fz k
      have hc' := (hbl.cell (p := ⟨b, o + k, none⟩) hlb).trans hc
      have HA := hide (hA.set k x)
      have HL := hide hbl
      clear hA hbl hc
      go_wp2
      go_roundw
      case rel => exact ⟨k + 1, by omega, by go_num, unhide HA, (unhide HL).setCell (Nat.le_refl _) _, by simp [World.setCell, hz]⟩
      case measure => simp [intOf]; omega
    · have HA := hide hA
      have HL := hide hbl
      clear hA hbl
      go_wp2
      go_ret
      exact ⟨rfl, unhide HA, unhide HL, hz⟩

set_option maxRecDepth 100000 in
set_option maxHeartbeats 1000000 in
theorem clone_none (l c : Nat) (w : World) :
    Calls Tryf.prog 6 #[.slice none l c] w fun e w' => e = .returned (.slice none 0 0) ∧ w' = w := by
  have he := fun wx => Lib.run_eql_slice_nil (P := Tryf.prog) wx 25 5 none l c 0 0 Tryf.underlying25
  go_enter Tryf.func6, Tryf.ntmps6
  go_wp2
  go_ret
  exact ⟨rfl, rfl⟩

theorem AllB.bytes {w : World} {B l : Nat} (h : AllB w B l) : Bytes w (some ⟨B, 0, none⟩) l := by
  intro k hk
  obtain ⟨x, hx⟩ := h.cell hk
  exact ⟨B, 0, x, rfl, by rw [Nat.zero_add]; exact hx⟩

/-- what the clone of a slice is like: its length; its bytes lie in new memory -/
structure Cloned (w w' : World) (l : Nat) (a' : Option Addr) : Prop where
  by' : Bytes w' a' l
  new : ∀ b o, a' = some ⟨b, o, none⟩ → w.heap.size ≤ b ∧ b < w'.heap.size
  bel : Below w.heap.size w w'

/-- zzCloneBytesB1: a slice of the same length in new memory -/
theorem clone_any (a : Option Addr) (l c : Nat) (w : World) (hB : Bytes w a l) (hl : l ≤ 1048576) (h0 : a = none → l = 0) :
    Calls Tryf.prog 6 #[.slice a l c] w fun e w' => ∃ a' c', e = .returned (.slice a' l c') ∧ Cloned w w' l a' := by
  cases a with
  | none =>
    obtain rfl := h0 rfl
    refine (clone_none 0 c w).mono ?_
    rintro e w' ⟨rfl, rfl⟩
    exact ⟨none, 0, rfl, fun k hk => (by omega), fun b o h => (by cases h), Below.refl _ _⟩
  | some a =>
    refine (clone_some a l c w hB hl).mono ?_
    rintro e w' ⟨rfl, h1, h2, h3⟩
    exact ⟨_, l, rfl, h1.bytes, fun b o h => (by cases h; omega), h2⟩

set_option maxRecDepth 100000 in
set_option maxHeartbeats 1000000 in
theorem same_any (a : Option Addr) (l c : Nat) (w : World) (hB : Bytes w a l) (hl : l ≤ 1048576) :
    Calls Tryf.prog 17 #[.slice a l c, .slice a l c] w fun e w' => e = .returned (.bool true) ∧ ∃ q, w' = w.drewN q := by
  have HB := hide hB
  clear hB
  go_enter Tryf.func17, Tryf.ntmps17
  go_wp2
  go_loopw [5] (fun i wr => ∃ k q : Nat, k ≤ l ∧ i = .int .i64 k ∧ wr = w.drewN q) (fun i _ => l - (intOf i).toNat)
  case atStart => exact ⟨0, 0, Nat.zero_le _, rfl, rfl⟩
  case round =>
    obtain ⟨k, q, hk, rfl, rfl⟩ := hrel
    by_cases hlt : k < l
    · obtain ⟨b, o, x, hi, hc, hlb⟩ := (unhide HB).at hlt c
      go_wp2
      go_quiet (fail)
      go_wp2
      go_roundw
      case rel => exact ⟨k + 1, q + nq, by omega, by go_num, rfl⟩
      case measure => simp [intOf]; omega
    · go_wp2
      go_ret
      exact ⟨rfl, q, rfl⟩

end Go.Proofs.Qxb6605750aFmt.anc
