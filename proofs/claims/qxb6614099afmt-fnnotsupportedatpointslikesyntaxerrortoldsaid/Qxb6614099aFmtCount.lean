/-
  The two counts of runes: Go's own RuneCountInString and the law's runeCount. Ours (the first after the shelf's own walk).
-/
import Derived.Test.Qxb6614099aFmtCards
import Derived.Test.Qxb6614099aFmtWidth
import Derived.WalkKit
import Derived.WalkSpells
import Derived.WalkLawsBesides
import Derived.Lib.Walk
import Derived.Lib.RuneCount
import Derived.Laws.RangeString
import Derived.Laws.RangeAny
import Derived.LoopTactic
namespace Go.Proofs.Qxb6614099aFmt.sq
open Go.RowKit

theorem hide {p : Prop} (h : p) : Hid p := h
theorem unhide {p : Prop} (h : Hid p) : p := h
theorem ret_int {k : IntKind} {a b : Int} (h : a = b) : Ending.returned (.int k a) = .returned (.int k b) := by rw [h]

set_option maxHeartbeats 4000000 in
set_option maxRecDepth 1000000 in
theorem runes_any (s : ByteArray) (w : World) (hs : s.size < 9223372036854775807) :
    Calls Tryf.prog 20 #[.string s] w fun e w' => e = .returned (.int .i64 (Lib.runeCount s)) ∧ ∃ pos, w' = w.iter s pos := by
  go_enter Tryf.func20, Tryf.ntmps20
  go_wp2
  go_loopw [2] (fun n w' => ∃ (pos b acc : Nat), w' = w.iter s pos ∧ n = .int .i64 acc ∧ acc + Lib.runeCountFrom s b pos = Lib.runeCount s ∧ s.size ≤ pos + b ∧ acc ≤ pos) (fun _ w' => s.size - w'.iterPos w.heap.size)
  case atStart => exact ⟨0, s.size, 0, rfl, rfl, by simp [Lib.runeCount], by omega, Nat.le_refl _⟩
  case round =>
    obtain ⟨pos, b, acc, rfl, rfl, hc, hb, ha⟩ := hrel
    by_cases hp : pos < s.size
    · have hnx : ∀ ty, (Instr.next (.pointer (some ⟨w.heap.size, 0, none⟩)) true ty).run Tryf.prog (w.iter s pos) = _ := fun ty => run_next_any w s pos ty hp
      have hwd := Lib.decode_width_pos s pos hp
      go_wp2
      go_roundw
      case rel =>
        cases b with
        | zero => omega
        | succ b =>
          refine ⟨pos + (Utf8.decode s pos).2, b, acc + 1, rfl, by go_num, ?_, by omega, by omega⟩
          rw [← hc]
          simp [Lib.runeCountFrom, hp]
          omega
      case measure =>
        simp
        omega
    · have hnx : ∀ ty, (Instr.next (.pointer (some ⟨w.heap.size, 0, none⟩)) true ty).run Tryf.prog (w.iter s pos) = _ := fun ty => run_next_end w s pos ty hp
      go_wp2
      go_ret
      rw [Lib.runeCountFrom_end s b pos hp, Nat.add_zero] at hc
      subst hc
      exact ⟨rfl, _, rfl⟩

set_option maxHeartbeats 1000000 in
set_option maxRecDepth 100000 in
theorem position_any (q : ByteArray) (pos : Nat) (w : World) (hq : q.size ≤ 1048576) (hp : pos ≤ q.size) :
    Calls Tryf.prog 15 #[.string q, .int .i64 pos] w fun e w' => e = .returned (.int .i64 ((Lib.runeCount (q.extract 0 pos) : Int) + 1)) ∧ ∃ p, w' = w.iter (q.extract 0 pos) p := by
  have hsz : (q.extract 0 pos).size < 9223372036854775807 := by simp; omega
  have hle := Lib.runeCount_le (q.extract 0 pos)
  have hle' : Lib.runeCount (q.extract 0 pos) ≤ 1048576 := by simp at hle; omega
  clear hle
  go_enter Tryf.func15, Tryf.ntmps15
  go_wp2_with fail
  refine (runes_any _ _ hsz).mono ?_
  rintro e w1 ⟨rfl, p, rfl⟩
  go_wp2
  go_ret
  exact ⟨rfl, p, rfl⟩

set_option maxHeartbeats 1000000 in
set_option maxRecDepth 100000 in
theorem seq_one (s : ByteArray) (k : Nat) (w : World) (hk : k < s.size) (hb : bAt s k < 194 ∨ 244 < bAt s k) :
    Calls Tryf.prog 13 #[.string s, .int .i64 k] w fun e w' => e = .returned (.int .i64 (wid s k)) ∧ w' = w := by
  have hw : wid s k = 1 := by
    rcases hb with h | h
    · exact wid_lo h
    · exact wid_hi h
  rw [hw]
  clear hw
  rw [← bAt_eq s k hk] at hb
  rcases hb with h | h
  all_goals
    go_enter Tryf.func13, Tryf.ntmps13
    go_wp2
    all_goals
      go_ret
      exact ⟨rfl, rfl⟩

set_option maxHeartbeats 1000000 in
set_option maxRecDepth 100000 in
theorem seq_two (s : ByteArray) (k : Nat) (w : World) (hs : s.size ≤ 1048576) (hk : k < s.size) (h0 : 194 ≤ bAt s k) (h1 : bAt s k ≤ 223) :
    Calls Tryf.prog 13 #[.string s, .int .i64 k] w fun e w' => e = .returned (.int .i64 (wid s k)) ∧ w' = w := by
  have HW : Hid (Wd s k 128 191 1) := wd_two h0 h1
  rw [← bAt_eq s k hk] at h0 h1
  by_cases hsh : k + 1 < s.size
  · have hk1 : k + 1 < s.size := by omega
    have HB := hide (bAt_eq s (k + 1) hk1)
    by_cases hlo : s[k + 1].toNat < 128
    · go_enter Tryf.func13, Tryf.ntmps13
      go_wp2
      go_ret
      exact ⟨ret_int (by rw [(unhide HW).bad1 hsh (Or.inl (by rw [← unhide HB]; exact hlo))]; rfl), rfl⟩
    by_cases hhi : 191 < s[k + 1].toNat
    · go_enter Tryf.func13, Tryf.ntmps13
      go_wp2
      go_ret
      exact ⟨ret_int (by rw [(unhide HW).bad1 hsh (Or.inr (by rw [← unhide HB]; exact hhi))]; rfl), rfl⟩
    go_enter Tryf.func13, Tryf.ntmps13
    go_wp2
    go_loop [10] (fun m => ∃ j : Nat, 2 ≤ j ∧ j ≤ 1 + 1 ∧ m = .int .i64 j ∧ Hid (∀ i, 2 ≤ i → i < j → 128 ≤ bAt s (k + i) ∧ bAt s (k + i) ≤ 191)) (fun m => 1 + 1 - (intOf m).toNat)
    case atStart => exact ⟨2, by omega, by omega, rfl, fun i h1 h2 => (by omega)⟩
    case round =>
      obtain ⟨j, hj0, hj1, rfl, HJ⟩ := hrel
      by_cases hj : j ≤ 1
      · omega
      · obtain rfl : j = 1 + 1 := by omega
        go_wp2
        go_ret
        exact ⟨ret_int (by rw [(unhide HW).good hsh (by rw [← unhide HB]; omega) (by rw [← unhide HB]; omega) (fun i a1 a2 => (unhide HJ) i a1 (by omega))]; rfl), rfl⟩
  · go_enter Tryf.func13, Tryf.ntmps13
    go_wp2
    go_ret
    exact ⟨ret_int (by rw [(unhide HW).short hsh]; rfl), rfl⟩

set_option maxHeartbeats 1000000 in
set_option maxRecDepth 100000 in
theorem seq_t224 (s : ByteArray) (k : Nat) (w : World) (hs : s.size ≤ 1048576) (hk : k < s.size) (h0 : 224 ≤ bAt s k) (h1 : bAt s k ≤ 224) :
    Calls Tryf.prog 13 #[.string s, .int .i64 k] w fun e w' => e = .returned (.int .i64 (wid s k)) ∧ w' = w := by
  have HW : Hid (Wd s k 160 191 2) := wd_three (lo := 160) (hi := 191) (by omega) (by omega) (by rw [if_pos (by omega)]) (by rw [if_neg (by omega)])
  rw [← bAt_eq s k hk] at h0 h1
  by_cases hsh : k + 2 < s.size
  · have hk1 : k + 1 < s.size := by omega
    have HB := hide (bAt_eq s (k + 1) hk1)
    by_cases hlo : s[k + 1].toNat < 160
    · go_enter Tryf.func13, Tryf.ntmps13
      go_wp2
      go_ret
      exact ⟨ret_int (by rw [(unhide HW).bad1 hsh (Or.inl (by rw [← unhide HB]; exact hlo))]; rfl), rfl⟩
    by_cases hhi : 191 < s[k + 1].toNat
    · go_enter Tryf.func13, Tryf.ntmps13
      go_wp2
      go_ret
      exact ⟨ret_int (by rw [(unhide HW).bad1 hsh (Or.inr (by rw [← unhide HB]; exact hhi))]; rfl), rfl⟩
    go_enter Tryf.func13, Tryf.ntmps13
    go_wp2
    go_loop [10] (fun m => ∃ j : Nat, 2 ≤ j ∧ j ≤ 2 + 1 ∧ m = .int .i64 j ∧ Hid (∀ i, 2 ≤ i → i < j → 128 ≤ bAt s (k + i) ∧ bAt s (k + i) ≤ 191)) (fun m => 2 + 1 - (intOf m).toNat)
    case atStart => exact ⟨2, by omega, by omega, rfl, fun i h1 h2 => (by omega)⟩
    case round =>
      obtain ⟨j, hj0, hj1, rfl, HJ⟩ := hrel
      by_cases hj : j ≤ 2
      · have hkj : k + j < s.size := by omega
        have HK := hide (bAt_eq s (k + j) hkj)
        by_cases hl : s[k + j].toNat < 128
        · go_wp2
          go_ret
          exact ⟨ret_int (by rw [(unhide HW).bad hsh j hj0 hj (Or.inl (by rw [← unhide HK]; exact hl))]; rfl), rfl⟩
        by_cases hh : 191 < s[k + j].toNat
        · go_wp2
          go_ret
          exact ⟨ret_int (by rw [(unhide HW).bad hsh j hj0 hj (Or.inr (by rw [← unhide HK]; exact hh))]; rfl), rfl⟩
        go_wp2
        go_round
        case rel =>
          refine ⟨j + 1, by omega, by omega, by go_num, fun i a1 a2 => ?_⟩
          by_cases e : i = j
          · subst e; rw [← unhide HK]; omega
          · exact (unhide HJ) i a1 (by omega)
        case measure => simp [intOf]; omega
      · obtain rfl : j = 2 + 1 := by omega
        go_wp2
        go_ret
        exact ⟨ret_int (by rw [(unhide HW).good hsh (by rw [← unhide HB]; omega) (by rw [← unhide HB]; omega) (fun i a1 a2 => (unhide HJ) i a1 (by omega))]; rfl), rfl⟩
  · go_enter Tryf.func13, Tryf.ntmps13
    go_wp2
    go_ret
    exact ⟨ret_int (by rw [(unhide HW).short hsh]; rfl), rfl⟩

set_option maxHeartbeats 1000000 in
set_option maxRecDepth 100000 in
theorem seq_t225 (s : ByteArray) (k : Nat) (w : World) (hs : s.size ≤ 1048576) (hk : k < s.size) (h0 : 225 ≤ bAt s k) (h1 : bAt s k ≤ 236) :
    Calls Tryf.prog 13 #[.string s, .int .i64 k] w fun e w' => e = .returned (.int .i64 (wid s k)) ∧ w' = w := by
  have HW : Hid (Wd s k 128 191 2) := wd_three (lo := 128) (hi := 191) (by omega) (by omega) (by rw [if_neg (by omega)]) (by rw [if_neg (by omega)])
  rw [← bAt_eq s k hk] at h0 h1
  by_cases hsh : k + 2 < s.size
  · have hk1 : k + 1 < s.size := by omega
    have HB := hide (bAt_eq s (k + 1) hk1)
    by_cases hlo : s[k + 1].toNat < 128
    · go_enter Tryf.func13, Tryf.ntmps13
      go_wp2
      go_ret
      exact ⟨ret_int (by rw [(unhide HW).bad1 hsh (Or.inl (by rw [← unhide HB]; exact hlo))]; rfl), rfl⟩
    by_cases hhi : 191 < s[k + 1].toNat
    · go_enter Tryf.func13, Tryf.ntmps13
      go_wp2
      go_ret
      exact ⟨ret_int (by rw [(unhide HW).bad1 hsh (Or.inr (by rw [← unhide HB]; exact hhi))]; rfl), rfl⟩
    go_enter Tryf.func13, Tryf.ntmps13
    go_wp2
    go_loop [10] (fun m => ∃ j : Nat, 2 ≤ j ∧ j ≤ 2 + 1 ∧ m = .int .i64 j ∧ Hid (∀ i, 2 ≤ i → i < j → 128 ≤ bAt s (k + i) ∧ bAt s (k + i) ≤ 191)) (fun m => 2 + 1 - (intOf m).toNat)
    case atStart => exact ⟨2, by omega, by omega, rfl, fun i h1 h2 => (by omega)⟩
    case round =>
      obtain ⟨j, hj0, hj1, rfl, HJ⟩ := hrel
      by_cases hj : j ≤ 2
      · have hkj : k + j < s.size := by omega
        have HK := hide (bAt_eq s (k + j) hkj)
        by_cases hl : s[k + j].toNat < 128
        · go_wp2
          go_ret
          exact ⟨ret_int (by rw [(unhide HW).bad hsh j hj0 hj (Or.inl (by rw [← unhide HK]; exact hl))]; rfl), rfl⟩
        by_cases hh : 191 < s[k + j].toNat
        · go_wp2
          go_ret
          exact ⟨ret_int (by rw [(unhide HW).bad hsh j hj0 hj (Or.inr (by rw [← unhide HK]; exact hh))]; rfl), rfl⟩
        go_wp2
        go_round
        case rel =>
          refine ⟨j + 1, by omega, by omega, by go_num, fun i a1 a2 => ?_⟩
          by_cases e : i = j
          · subst e; rw [← unhide HK]; omega
          · exact (unhide HJ) i a1 (by omega)
        case measure => simp [intOf]; omega
      · obtain rfl : j = 2 + 1 := by omega
        go_wp2
        go_ret
        exact ⟨ret_int (by rw [(unhide HW).good hsh (by rw [← unhide HB]; omega) (by rw [← unhide HB]; omega) (fun i a1 a2 => (unhide HJ) i a1 (by omega))]; rfl), rfl⟩
  · go_enter Tryf.func13, Tryf.ntmps13
    go_wp2
    go_ret
    exact ⟨ret_int (by rw [(unhide HW).short hsh]; rfl), rfl⟩

set_option maxHeartbeats 1000000 in
set_option maxRecDepth 100000 in
theorem seq_t237 (s : ByteArray) (k : Nat) (w : World) (hs : s.size ≤ 1048576) (hk : k < s.size) (h0 : 237 ≤ bAt s k) (h1 : bAt s k ≤ 237) :
    Calls Tryf.prog 13 #[.string s, .int .i64 k] w fun e w' => e = .returned (.int .i64 (wid s k)) ∧ w' = w := by
  have HW : Hid (Wd s k 128 159 2) := wd_three (lo := 128) (hi := 159) (by omega) (by omega) (by rw [if_neg (by omega)]) (by rw [if_pos (by omega)])
  rw [← bAt_eq s k hk] at h0 h1
  by_cases hsh : k + 2 < s.size
  · have hk1 : k + 1 < s.size := by omega
    have HB := hide (bAt_eq s (k + 1) hk1)
    by_cases hlo : s[k + 1].toNat < 128
    · go_enter Tryf.func13, Tryf.ntmps13
      go_wp2
      go_ret
      exact ⟨ret_int (by rw [(unhide HW).bad1 hsh (Or.inl (by rw [← unhide HB]; exact hlo))]; rfl), rfl⟩
    by_cases hhi : 159 < s[k + 1].toNat
    · go_enter Tryf.func13, Tryf.ntmps13
      go_wp2
      go_ret
      exact ⟨ret_int (by rw [(unhide HW).bad1 hsh (Or.inr (by rw [← unhide HB]; exact hhi))]; rfl), rfl⟩
    go_enter Tryf.func13, Tryf.ntmps13
    go_wp2
    go_loop [10] (fun m => ∃ j : Nat, 2 ≤ j ∧ j ≤ 2 + 1 ∧ m = .int .i64 j ∧ Hid (∀ i, 2 ≤ i → i < j → 128 ≤ bAt s (k + i) ∧ bAt s (k + i) ≤ 191)) (fun m => 2 + 1 - (intOf m).toNat)
    case atStart => exact ⟨2, by omega, by omega, rfl, fun i h1 h2 => (by omega)⟩
    case round =>
      obtain ⟨j, hj0, hj1, rfl, HJ⟩ := hrel
      by_cases hj : j ≤ 2
      · have hkj : k + j < s.size := by omega
        have HK := hide (bAt_eq s (k + j) hkj)
        by_cases hl : s[k + j].toNat < 128
        · go_wp2
          go_ret
          exact ⟨ret_int (by rw [(unhide HW).bad hsh j hj0 hj (Or.inl (by rw [← unhide HK]; exact hl))]; rfl), rfl⟩
        by_cases hh : 191 < s[k + j].toNat
        · go_wp2
          go_ret
          exact ⟨ret_int (by rw [(unhide HW).bad hsh j hj0 hj (Or.inr (by rw [← unhide HK]; exact hh))]; rfl), rfl⟩
        go_wp2
        go_round
        case rel =>
          refine ⟨j + 1, by omega, by omega, by go_num, fun i a1 a2 => ?_⟩
          by_cases e : i = j
          · subst e; rw [← unhide HK]; omega
          · exact (unhide HJ) i a1 (by omega)
        case measure => simp [intOf]; omega
      · obtain rfl : j = 2 + 1 := by omega
        go_wp2
        go_ret
        exact ⟨ret_int (by rw [(unhide HW).good hsh (by rw [← unhide HB]; omega) (by rw [← unhide HB]; omega) (fun i a1 a2 => (unhide HJ) i a1 (by omega))]; rfl), rfl⟩
  · go_enter Tryf.func13, Tryf.ntmps13
    go_wp2
    go_ret
    exact ⟨ret_int (by rw [(unhide HW).short hsh]; rfl), rfl⟩

set_option maxHeartbeats 1000000 in
set_option maxRecDepth 100000 in
theorem seq_t238 (s : ByteArray) (k : Nat) (w : World) (hs : s.size ≤ 1048576) (hk : k < s.size) (h0 : 238 ≤ bAt s k) (h1 : bAt s k ≤ 239) :
    Calls Tryf.prog 13 #[.string s, .int .i64 k] w fun e w' => e = .returned (.int .i64 (wid s k)) ∧ w' = w := by
  have HW : Hid (Wd s k 128 191 2) := wd_three (lo := 128) (hi := 191) (by omega) (by omega) (by rw [if_neg (by omega)]) (by rw [if_neg (by omega)])
  rw [← bAt_eq s k hk] at h0 h1
  by_cases hsh : k + 2 < s.size
  · have hk1 : k + 1 < s.size := by omega
    have HB := hide (bAt_eq s (k + 1) hk1)
    by_cases hlo : s[k + 1].toNat < 128
    · go_enter Tryf.func13, Tryf.ntmps13
      go_wp2
      go_ret
      exact ⟨ret_int (by rw [(unhide HW).bad1 hsh (Or.inl (by rw [← unhide HB]; exact hlo))]; rfl), rfl⟩
    by_cases hhi : 191 < s[k + 1].toNat
    · go_enter Tryf.func13, Tryf.ntmps13
      go_wp2
      go_ret
      exact ⟨ret_int (by rw [(unhide HW).bad1 hsh (Or.inr (by rw [← unhide HB]; exact hhi))]; rfl), rfl⟩
    go_enter Tryf.func13, Tryf.ntmps13
    go_wp2
    go_loop [10] (fun m => ∃ j : Nat, 2 ≤ j ∧ j ≤ 2 + 1 ∧ m = .int .i64 j ∧ Hid (∀ i, 2 ≤ i → i < j → 128 ≤ bAt s (k + i) ∧ bAt s (k + i) ≤ 191)) (fun m => 2 + 1 - (intOf m).toNat)
    case atStart => exact ⟨2, by omega, by omega, rfl, fun i h1 h2 => (by omega)⟩
    case round =>
      obtain ⟨j, hj0, hj1, rfl, HJ⟩ := hrel
      by_cases hj : j ≤ 2
      · have hkj : k + j < s.size := by omega
        have HK := hide (bAt_eq s (k + j) hkj)
        by_cases hl : s[k + j].toNat < 128
        · go_wp2
          go_ret
          exact ⟨ret_int (by rw [(unhide HW).bad hsh j hj0 hj (Or.inl (by rw [← unhide HK]; exact hl))]; rfl), rfl⟩
        by_cases hh : 191 < s[k + j].toNat
        · go_wp2
          go_ret
          exact ⟨ret_int (by rw [(unhide HW).bad hsh j hj0 hj (Or.inr (by rw [← unhide HK]; exact hh))]; rfl), rfl⟩
        go_wp2
        go_round
        case rel =>
          refine ⟨j + 1, by omega, by omega, by go_num, fun i a1 a2 => ?_⟩
          by_cases e : i = j
          · subst e; rw [← unhide HK]; omega
          · exact (unhide HJ) i a1 (by omega)
        case measure => simp [intOf]; omega
      · obtain rfl : j = 2 + 1 := by omega
        go_wp2
        go_ret
        exact ⟨ret_int (by rw [(unhide HW).good hsh (by rw [← unhide HB]; omega) (by rw [← unhide HB]; omega) (fun i a1 a2 => (unhide HJ) i a1 (by omega))]; rfl), rfl⟩
  · go_enter Tryf.func13, Tryf.ntmps13
    go_wp2
    go_ret
    exact ⟨ret_int (by rw [(unhide HW).short hsh]; rfl), rfl⟩

set_option maxHeartbeats 1000000 in
set_option maxRecDepth 100000 in
theorem seq_t240 (s : ByteArray) (k : Nat) (w : World) (hs : s.size ≤ 1048576) (hk : k < s.size) (h0 : 240 ≤ bAt s k) (h1 : bAt s k ≤ 240) :
    Calls Tryf.prog 13 #[.string s, .int .i64 k] w fun e w' => e = .returned (.int .i64 (wid s k)) ∧ w' = w := by
  have HW : Hid (Wd s k 144 191 3) := wd_four (lo := 144) (hi := 191) (by omega) (by omega) (by rw [if_pos (by omega)]) (by rw [if_neg (by omega)])
  rw [← bAt_eq s k hk] at h0 h1
  by_cases hsh : k + 3 < s.size
  · have hk1 : k + 1 < s.size := by omega
    have HB := hide (bAt_eq s (k + 1) hk1)
    by_cases hlo : s[k + 1].toNat < 144
    · go_enter Tryf.func13, Tryf.ntmps13
      go_wp2
      go_ret
      exact ⟨ret_int (by rw [(unhide HW).bad1 hsh (Or.inl (by rw [← unhide HB]; exact hlo))]; rfl), rfl⟩
    by_cases hhi : 191 < s[k + 1].toNat
    · go_enter Tryf.func13, Tryf.ntmps13
      go_wp2
      go_ret
      exact ⟨ret_int (by rw [(unhide HW).bad1 hsh (Or.inr (by rw [← unhide HB]; exact hhi))]; rfl), rfl⟩
    go_enter Tryf.func13, Tryf.ntmps13
    go_wp2
    go_loop [10] (fun m => ∃ j : Nat, 2 ≤ j ∧ j ≤ 3 + 1 ∧ m = .int .i64 j ∧ Hid (∀ i, 2 ≤ i → i < j → 128 ≤ bAt s (k + i) ∧ bAt s (k + i) ≤ 191)) (fun m => 3 + 1 - (intOf m).toNat)
    case atStart => exact ⟨2, by omega, by omega, rfl, fun i h1 h2 => (by omega)⟩
    case round =>
      obtain ⟨j, hj0, hj1, rfl, HJ⟩ := hrel
      by_cases hj : j ≤ 3
      · have hkj : k + j < s.size := by omega
        have HK := hide (bAt_eq s (k + j) hkj)
        by_cases hl : s[k + j].toNat < 128
        · go_wp2
          go_ret
          exact ⟨ret_int (by rw [(unhide HW).bad hsh j hj0 hj (Or.inl (by rw [← unhide HK]; exact hl))]; rfl), rfl⟩
        by_cases hh : 191 < s[k + j].toNat
        · go_wp2
          go_ret
          exact ⟨ret_int (by rw [(unhide HW).bad hsh j hj0 hj (Or.inr (by rw [← unhide HK]; exact hh))]; rfl), rfl⟩
        go_wp2
        go_round
        case rel =>
          refine ⟨j + 1, by omega, by omega, by go_num, fun i a1 a2 => ?_⟩
          by_cases e : i = j
          · subst e; rw [← unhide HK]; omega
          · exact (unhide HJ) i a1 (by omega)
        case measure => simp [intOf]; omega
      · obtain rfl : j = 3 + 1 := by omega
        go_wp2
        go_ret
        exact ⟨ret_int (by rw [(unhide HW).good hsh (by rw [← unhide HB]; omega) (by rw [← unhide HB]; omega) (fun i a1 a2 => (unhide HJ) i a1 (by omega))]; rfl), rfl⟩
  · go_enter Tryf.func13, Tryf.ntmps13
    go_wp2
    go_ret
    exact ⟨ret_int (by rw [(unhide HW).short hsh]; rfl), rfl⟩

set_option maxHeartbeats 1000000 in
set_option maxRecDepth 100000 in
theorem seq_t241 (s : ByteArray) (k : Nat) (w : World) (hs : s.size ≤ 1048576) (hk : k < s.size) (h0 : 241 ≤ bAt s k) (h1 : bAt s k ≤ 243) :
    Calls Tryf.prog 13 #[.string s, .int .i64 k] w fun e w' => e = .returned (.int .i64 (wid s k)) ∧ w' = w := by
  have HW : Hid (Wd s k 128 191 3) := wd_four (lo := 128) (hi := 191) (by omega) (by omega) (by rw [if_neg (by omega)]) (by rw [if_neg (by omega)])
  rw [← bAt_eq s k hk] at h0 h1
  by_cases hsh : k + 3 < s.size
  · have hk1 : k + 1 < s.size := by omega
    have HB := hide (bAt_eq s (k + 1) hk1)
    by_cases hlo : s[k + 1].toNat < 128
    · go_enter Tryf.func13, Tryf.ntmps13
      go_wp2
      go_ret
      exact ⟨ret_int (by rw [(unhide HW).bad1 hsh (Or.inl (by rw [← unhide HB]; exact hlo))]; rfl), rfl⟩
    by_cases hhi : 191 < s[k + 1].toNat
    · go_enter Tryf.func13, Tryf.ntmps13
      go_wp2
      go_ret
      exact ⟨ret_int (by rw [(unhide HW).bad1 hsh (Or.inr (by rw [← unhide HB]; exact hhi))]; rfl), rfl⟩
    go_enter Tryf.func13, Tryf.ntmps13
    go_wp2
    go_loop [10] (fun m => ∃ j : Nat, 2 ≤ j ∧ j ≤ 3 + 1 ∧ m = .int .i64 j ∧ Hid (∀ i, 2 ≤ i → i < j → 128 ≤ bAt s (k + i) ∧ bAt s (k + i) ≤ 191)) (fun m => 3 + 1 - (intOf m).toNat)
    case atStart => exact ⟨2, by omega, by omega, rfl, fun i h1 h2 => (by omega)⟩
    case round =>
      obtain ⟨j, hj0, hj1, rfl, HJ⟩ := hrel
      by_cases hj : j ≤ 3
      · have hkj : k + j < s.size := by omega
        have HK := hide (bAt_eq s (k + j) hkj)
        by_cases hl : s[k + j].toNat < 128
        · go_wp2
          go_ret
          exact ⟨ret_int (by rw [(unhide HW).bad hsh j hj0 hj (Or.inl (by rw [← unhide HK]; exact hl))]; rfl), rfl⟩
        by_cases hh : 191 < s[k + j].toNat
        · go_wp2
          go_ret
          exact ⟨ret_int (by rw [(unhide HW).bad hsh j hj0 hj (Or.inr (by rw [← unhide HK]; exact hh))]; rfl), rfl⟩
        go_wp2
        go_round
        case rel =>
          refine ⟨j + 1, by omega, by omega, by go_num, fun i a1 a2 => ?_⟩
          by_cases e : i = j
          · subst e; rw [← unhide HK]; omega
          · exact (unhide HJ) i a1 (by omega)
        case measure => simp [intOf]; omega
      · obtain rfl : j = 3 + 1 := by omega
        go_wp2
        go_ret
        exact ⟨ret_int (by rw [(unhide HW).good hsh (by rw [← unhide HB]; omega) (by rw [← unhide HB]; omega) (fun i a1 a2 => (unhide HJ) i a1 (by omega))]; rfl), rfl⟩
  · go_enter Tryf.func13, Tryf.ntmps13
    go_wp2
    go_ret
    exact ⟨ret_int (by rw [(unhide HW).short hsh]; rfl), rfl⟩

set_option maxHeartbeats 1000000 in
set_option maxRecDepth 100000 in
theorem seq_t244 (s : ByteArray) (k : Nat) (w : World) (hs : s.size ≤ 1048576) (hk : k < s.size) (h0 : 244 ≤ bAt s k) (h1 : bAt s k ≤ 244) :
    Calls Tryf.prog 13 #[.string s, .int .i64 k] w fun e w' => e = .returned (.int .i64 (wid s k)) ∧ w' = w := by
  have HW : Hid (Wd s k 128 143 3) := wd_four (lo := 128) (hi := 143) (by omega) (by omega) (by rw [if_neg (by omega)]) (by rw [if_pos (by omega)])
  rw [← bAt_eq s k hk] at h0 h1
  by_cases hsh : k + 3 < s.size
  · have hk1 : k + 1 < s.size := by omega
    have HB := hide (bAt_eq s (k + 1) hk1)
    by_cases hlo : s[k + 1].toNat < 128
    · go_enter Tryf.func13, Tryf.ntmps13
      go_wp2
      go_ret
      exact ⟨ret_int (by rw [(unhide HW).bad1 hsh (Or.inl (by rw [← unhide HB]; exact hlo))]; rfl), rfl⟩
    by_cases hhi : 143 < s[k + 1].toNat
    · go_enter Tryf.func13, Tryf.ntmps13
      go_wp2
      go_ret
      exact ⟨ret_int (by rw [(unhide HW).bad1 hsh (Or.inr (by rw [← unhide HB]; exact hhi))]; rfl), rfl⟩
    go_enter Tryf.func13, Tryf.ntmps13
    go_wp2
    go_loop [10] (fun m => ∃ j : Nat, 2 ≤ j ∧ j ≤ 3 + 1 ∧ m = .int .i64 j ∧ Hid (∀ i, 2 ≤ i → i < j → 128 ≤ bAt s (k + i) ∧ bAt s (k + i) ≤ 191)) (fun m => 3 + 1 - (intOf m).toNat)
    case atStart => exact ⟨2, by omega, by omega, rfl, fun i h1 h2 => (by omega)⟩
    case round =>
      obtain ⟨j, hj0, hj1, rfl, HJ⟩ := hrel
      by_cases hj : j ≤ 3
      · have hkj : k + j < s.size := by omega
        have HK := hide (bAt_eq s (k + j) hkj)
        by_cases hl : s[k + j].toNat < 128
        · go_wp2
          go_ret
          exact ⟨ret_int (by rw [(unhide HW).bad hsh j hj0 hj (Or.inl (by rw [← unhide HK]; exact hl))]; rfl), rfl⟩
        by_cases hh : 191 < s[k + j].toNat
        · go_wp2
          go_ret
          exact ⟨ret_int (by rw [(unhide HW).bad hsh j hj0 hj (Or.inr (by rw [← unhide HK]; exact hh))]; rfl), rfl⟩
        go_wp2
        go_round
        case rel =>
          refine ⟨j + 1, by omega, by omega, by go_num, fun i a1 a2 => ?_⟩
          by_cases e : i = j
          · subst e; rw [← unhide HK]; omega
          · exact (unhide HJ) i a1 (by omega)
        case measure => simp [intOf]; omega
      · obtain rfl : j = 3 + 1 := by omega
        go_wp2
        go_ret
        exact ⟨ret_int (by rw [(unhide HW).good hsh (by rw [← unhide HB]; omega) (by rw [← unhide HB]; omega) (fun i a1 a2 => (unhide HJ) i a1 (by omega))]; rfl), rfl⟩
  · go_enter Tryf.func13, Tryf.ntmps13
    go_wp2
    go_ret
    exact ⟨ret_int (by rw [(unhide HW).short hsh]; rfl), rfl⟩

/-- seqLen: the width of the rune at k -/
theorem seq_any (s : ByteArray) (k : Nat) (w : World) (hs : s.size ≤ 1048576) (hk : k < s.size) :
    Calls Tryf.prog 13 #[.string s, .int .i64 k] w fun e w' => e = .returned (.int .i64 (wid s k)) ∧ w' = w := by
  by_cases c1 : bAt s k < 194 ∨ 244 < bAt s k
  · exact seq_one s k w hk c1
  by_cases dtwo : bAt s k ≤ 223
  · exact seq_two s k w hs hk (by omega) (by omega)
  by_cases dt224 : bAt s k ≤ 224
  · exact seq_t224 s k w hs hk (by omega) (by omega)
  by_cases dt225 : bAt s k ≤ 236
  · exact seq_t225 s k w hs hk (by omega) (by omega)
  by_cases dt237 : bAt s k ≤ 237
  · exact seq_t237 s k w hs hk (by omega) (by omega)
  by_cases dt238 : bAt s k ≤ 239
  · exact seq_t238 s k w hs hk (by omega) (by omega)
  by_cases dt240 : bAt s k ≤ 240
  · exact seq_t240 s k w hs hk (by omega) (by omega)
  by_cases dt241 : bAt s k ≤ 243
  · exact seq_t241 s k w hs hk (by omega) (by omega)
  exact seq_t244 s k w hs hk (by omega) (by omega)

set_option maxHeartbeats 1000000 in
set_option maxRecDepth 100000 in
/-- the law's own runeCount -/
theorem runeCount_any (s : ByteArray) (w : World) (hs : s.size ≤ 1048576) :
    Calls Tryf.prog 9 #[.string s] w fun e w' => e = .returned (.int .i64 (Lib.runeCount s)) ∧ w' = w := by
  go_enter Tryf.func9, Tryf.ntmps9
  go_wp2
  go_loop [3, 4] (fun n k => ∃ (pos b acc : Nat), k = .int .i64 pos ∧ n = .int .i64 acc ∧ Hid (acc + Lib.runeCountFrom s b pos = Lib.runeCount s) ∧ s.size ≤ pos + b ∧ acc ≤ pos ∧ pos ≤ s.size + 4) (fun _ k => s.size - (intOf k).toNat)
  case atStart => exact ⟨0, s.size, 0, rfl, rfl, by simp [Lib.runeCount, Hid], by omega, Nat.le_refl _, by omega⟩
  case round =>
    obtain ⟨pos, b, acc, rfl, rfl, hc, hb, ha, hp4⟩ := hrel
    by_cases hp : pos < s.size
    · have hwd := Lib.decode_width_pos s pos hp
      have hw4 := wid_le s pos
      change 1 ≤ wid s pos at hwd
      go_wp2_with (go_at_call 13; refine (seq_any s pos _ hs hp).mono ?_; rintro e w1 ⟨rfl, rfl⟩)
      go_round
      case rel =>
        cases b with
        | zero => omega
        | succ b =>
          refine ⟨pos + wid s pos, b, acc + 1, by go_num, by go_num, ?_, by omega, by omega, by omega⟩
          have h := unhide hc
          simp only [Lib.runeCountFrom, hp, if_true] at h
          have h' : acc + (1 + Lib.runeCountFrom s b (pos + wid s pos)) = Lib.runeCount s := h
          show acc + 1 + Lib.runeCountFrom s b (pos + wid s pos) = Lib.runeCount s
          omega
      case measure => simp [intOf]; omega
    · go_wp2
      go_ret
      have h := unhide hc
      rw [Lib.runeCountFrom_end s b pos hp, Nat.add_zero] at h
      exact ⟨ret_int (by rw [h]), rfl⟩
end Go.Proofs.Qxb6614099aFmt.sq
