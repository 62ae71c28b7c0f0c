/-
  Slices in memory, nil or not, by one word; and the size guard of FnOpenAnchorExact. Ours.
-/
import Derived.Test.Qxb6605750aFmtBase
namespace Go.Proofs.Qxb6605750aFmt.anc
open Go.RowKit Go.Maps

/-- the n cells from a on hold g 0, g 1, .. (where n is 0 the address may be nil) -/
def Cells (w : World) (a : Option Addr) (n : Nat) (g : Nat → Value) : Prop := ∀ k, k < n → ∃ b o, a = some ⟨b, o, none⟩ ∧ w.cell? ⟨b, o + k, none⟩ = some (g k)

theorem Cells.below {w w' : World} {a : Option Addr} {n : Nat} {g : Nat → Value} (h : Cells w a n g) (hb : Below w.heap.size w w') : Cells w' a n g := by
  intro k hk
  obtain ⟨b, o, ha, hc⟩ := h k hk
  exact ⟨b, o, ha, (hb.cell (p := ⟨b, o + k, none⟩) (cell_lt hc)).trans hc⟩

/-- AT THE INDEX k: the address, and the cell, for the walk -/
theorem Cells.at {w : World} {a : Option Addr} {n : Nat} {g : Nat → Value} (h : Cells w a n g) {k : Nat} (hk : k < n) {t e : TypeId} (cap : Nat) (ht : Tryf.prog.underlying t = some (.slice e)) (he : ∀ wx, (sizeOf e).run Tryf.prog wx = .ok 1 wx) :
    ∃ b o, (∀ wx, (Instr.indexAt t (.slice a n cap) (.int .i64 (k : Int))).run Tryf.prog wx = .ok (.pointer (some ⟨b, o + k, none⟩)) wx) ∧ w.cell? ⟨b, o + k, none⟩ = some (g k) := by
  obtain ⟨b, o, rfl, hc⟩ := h k hk
  refine ⟨b, o, fun wx => ?_, hc⟩
  have hel : Tryf.prog.elem t = e := by simp [Program.elem, ht]
  have hrun := run_indexAt_slice (P := Tryf.prog) wx t ⟨b, o, none⟩ n cap .i64 (k : Int) (by rw [hel]; exact ht)
  rw [hrun, if_pos ⟨by omega, by omega⟩, hel, he wx]
  simp [Result.andThen, Addr.add]

def sumN (g : Nat → Nat) : Nat → Nat
  | 0 => 0
  | k + 1 => sumN g k + g k

theorem size9 (w : World) : (sizeOf 9).run Tryf.prog w = .ok 1 w := by kernel_rfl
theorem size25 (w : World) : (sizeOf 25).run Tryf.prog w = .ok 1 w := by kernel_rfl
theorem size5 (w : World) : (sizeOf 5).run Tryf.prog w = .ok 1 w := by kernel_rfl

/-- the guard's answer: true only where the total is at most 2^20 -/
def GPost (T : Nat) (w : World) (e : Ending) (w' : World) : Prop := ∃ b, e = .returned (.bool b) ∧ w' = w ∧ (b = true → T ≤ 1048576)
theorem gpost_no (T : Nat) (w : World) : GPost T w (.returned (.bool false)) w := ⟨false, rfl, rfl, fun h => by cases h⟩
theorem gpost_yes {T : Nat} (h : T ≤ 1048576) (w : World) : GPost T w (.returned (.bool true)) w := ⟨true, rfl, rfl, fun _ => h⟩

set_option maxRecDepth 100000 in
set_option maxHeartbeats 1000000 in
theorem zzBytesX (kept line : Int) (name : ByteArray) (na ja : Option Addr) (n nc m jc : Nat) (nm : Nat → ByteArray) (ba : Nat → Option Addr) (bl bc : Nat → Nat) (w : World)
    (hN : Cells w na n fun i => .string (nm i)) (hJ : Cells w ja m fun i => .slice (ba i) (bl i) (bc i)) (hname : name.size ≤ maxLen) (hn : n ≤ maxLen) (hm : m ≤ maxLen) (hnm : ∀ i, i < n → (nm i).size ≤ maxLen) (hbl : ∀ i, i < m → bl i ≤ maxLen) :
    Calls Tryf.prog 5 #[.int .i64 kept, .slice na n nc, .slice ja m jc, .string name, .int .i64 line] w (GPost (n + sumN (fun i => (nm i).size) n + m + sumN bl m + name.size) w) := by
  have HN := hide hN
  have HJ := hide hJ
  have HL := hide hnm
  have HB := hide hbl
  unfold maxLen at hname hn hm
  clear hN hJ hnm hbl
  go_enter Tryf.func5, Tryf.ntmps5
  go_wp2
  · go_ret
    exact gpost_no _ _
  go_loop [11, 12] (fun t i => ∃ k : Nat, k ≤ n ∧ i = .int .i64 k ∧ t = .int .i64 ((n + sumN (fun i => (nm i).size) k : Nat) : Int) ∧ n + sumN (fun i => (nm i).size) k ≤ 1048576) (fun _ i => n - (intOf i).toNat)
  case atStart => exact ⟨0, Nat.zero_le _, rfl, rfl, by simp [sumN]; omega⟩
  case round =>
    obtain ⟨k, hk, rfl, rfl, hle⟩ := hrel
    by_cases hlt : k < n
    · obtain ⟨b, o, hi, hc⟩ := (unhide HN).at hlt nc Tryf.underlying22 size9
      have hl := (unhide HL) k hlt
      have HS : Hid (sumN (fun i => (nm i).size) (k + 1) = sumN (fun i => (nm i).size) k + (nm k).size) := rfl
      unfold maxLen at hl
      go_wp2
      · go_ret
        exact gpost_no _ _
      · go_ret
        exact gpost_no _ _
      · go_round
        case rel => exact ⟨k + 1, by omega, by go_num, by rw [unhide HS]; go_num, by rw [unhide HS]; omega⟩
        case measure => simp [intOf]; omega
    · obtain rfl : k = n := by omega
      go_wp2
      · go_ret
        exact gpost_no _ _
      · go_ret
        exact gpost_no _ _
      go_loop [11, 13] (fun t i => ∃ j : Nat, j ≤ m ∧ i = .int .i64 j ∧ t = .int .i64 ((k + sumN (fun i => (nm i).size) k + m + sumN bl j : Nat) : Int) ∧ k + sumN (fun i => (nm i).size) k + m + sumN bl j ≤ 1048576) (fun _ i => m - (intOf i).toNat)
      case atStart => exact ⟨0, Nat.zero_le _, rfl, by simp [sumN], by simp [sumN]; omega⟩
      case round =>
        obtain ⟨j, hj, rfl, rfl, hle2⟩ := hrel
        by_cases hlt2 : j < m
        · obtain ⟨b, o, hi, hc⟩ := (unhide HJ).at hlt2 jc Tryf.underlying23 size25
          have hl := (unhide HB) j hlt2
          have HS : Hid (sumN bl (j + 1) = sumN bl j + bl j) := rfl
          unfold maxLen at hl
          go_wp2
          · go_ret
            exact gpost_no _ _
          · go_ret
            exact gpost_no _ _
          · go_round
            case rel => exact ⟨j + 1, by omega, by go_num, by rw [unhide HS]; go_num, by rw [unhide HS]; omega⟩
            case measure => simp [intOf]; omega
        · obtain rfl : j = m := by omega
          go_wp2
          · go_ret
            exact gpost_no _ _
          · go_ret
            exact gpost_no _ _
          · go_ret
            exact gpost_yes (by omega) _

end Go.Proofs.Qxb6605750aFmt.anc
