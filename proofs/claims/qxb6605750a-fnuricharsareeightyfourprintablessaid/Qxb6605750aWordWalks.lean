import Derived.Test.Qxb6605750aRows
import Derived.WalkKit
namespace Go.Proofs.Qxb6605750a.yam
open Go.RowKit

/-- does the byte start a word? (plain) -/
def wsB (c : Int) : Bool := c == 121 || c == 89 || c == 110 || c == 78 || c == 116 || c == 84 || c == 102 || c == 70 || c == 111 || c == 79
/-- a letter, a digit, '-' or '_' (plain) -/
def wordB (c : Int) : Bool := decide ((48 ≤ c ∧ c ≤ 57) ∨ (97 ≤ c ∧ c ≤ 122) ∨ (65 ≤ c ∧ c ≤ 90) ∨ c = 45 ∨ c = 95)
/-- may the byte stand in a URI? (plain) -/
def uriB (c : Int) : Bool := c == 59 || c == 47 || c == 63 || c == 58 || c == 64 || c == 38 || c == 61 || c == 43 || c == 36 || c == 44 || c == 46 || c == 33 || c == 126 || c == 42 || c == 39 || c == 40 || c == 41 || c == 91 || c == 93 || c == 37 || wordB c

theorem ret_bool {a b : Bool} (h : a = b) : Ending.returned (.bool a) = .returned (.bool b) := by rw [h]

set_option maxHeartbeats 400000 in
theorem isWordStart_any (c : Int) (w : World) :
    Calls Try.prog 11 #[.int .u8 c] w fun e w' => e = .returned (.bool (wsB c)) ∧ w' = w := by
  go_enter Try.func11, Try.ntmps11
  go_wp2
  all_goals
    go_ret
    exact ⟨ret_bool (by simp [wsB, *]), rfl⟩

set_option maxHeartbeats 400000 in
theorem zzIsWordStart_any (c : Int) (w : World) :
    Calls Try.prog 8 #[.int .u8 c] w fun e w' => e = .returned (.bool (wsB c)) ∧ w' = w := by
  go_enter Try.func8, Try.ntmps8
  go_wp2_with (go_at_call 11; refine (isWordStart_any _ _).mono ?_; rintro e w' ⟨rfl, rfl⟩)
  go_ret
  exact ⟨rfl, rfl⟩

set_option maxHeartbeats 400000 in
theorem isWord_any (c : Int) (w : World) :
    Calls Try.prog 13 #[.int .u8 c] w fun e w' => e = .returned (.bool (wordB c)) ∧ w' = w := by
  go_enter Try.func13, Try.ntmps13
  go_wp2
  all_goals
    go_ret
    refine ⟨ret_bool ?_, rfl⟩
    unfold wordB
    rw [Bool.eq_iff_iff]
    simp only [Bool.or_eq_true, decide_eq_true_eq, beq_iff_eq, true_iff]
    first | omega | decide

set_option maxHeartbeats 400000 in
theorem isURI_any (c : Int) (w : World) :
    Calls Try.prog 12 #[.int .u8 c] w fun e w' => e = .returned (.bool (uriB c)) ∧ w' = w := by
  go_enter Try.func12, Try.ntmps12
  go_wp2_with (go_at_call 13; refine (isWord_any _ _).mono ?_; rintro e w' ⟨rfl, rfl⟩)
  all_goals
    go_ret
    exact ⟨ret_bool (by simp [uriB, *]), rfl⟩

set_option maxHeartbeats 400000 in
theorem zzIsURI_any (c : Int) (w : World) :
    Calls Try.prog 9 #[.int .u8 c] w fun e w' => e = .returned (.bool (uriB c)) ∧ w' = w := by
  go_enter Try.func9, Try.ntmps9
  go_wp2_with (go_at_call 12; refine (isURI_any _ _).mono ?_; rintro e w' ⟨rfl, rfl⟩)
  go_ret
  exact ⟨rfl, rfl⟩

/-- is the byte c in the string? (plain) -/
def hasB (s : List UInt8) (c : Int) : Bool := s.any fun b => (b.toNat : Int) == c

theorem take_snoc (s : ByteArray) (k : Nat) (h : k < s.size) : s.data.toList.take (k + 1) = s.data.toList.take k ++ [s[k]] := by
  rw [List.take_succ_eq_append_getElem (by simpa using h)]; rfl
theorem hasB_snoc (l : List UInt8) (b : UInt8) (c : Int) : hasB (l ++ [b]) c = (hasB l c || (b.toNat : Int) == c) := by
  simp [hasB]
theorem hasB_yes (s : ByteArray) (k : Nat) (h : k < s.size) (c : Int) (e : ((s[k].toNat : Int) == c) = true) : hasB s.data.toList c = true := by
  have h1 : hasB (s.data.toList.take (k + 1)) c = true := by rw [take_snoc s k h, hasB_snoc, e]; simp
  unfold hasB at h1 ⊢
  rw [List.any_eq_true] at h1 ⊢
  obtain ⟨x, hx, hc⟩ := h1
  exact ⟨x, List.mem_of_mem_take hx, hc⟩

set_option maxHeartbeats 400000 in
theorem zzHasByte_any (s : ByteArray) (c : Int) (w : World) (hs : s.size ≤ maxLen) :
    Calls Try.prog 10 #[.string s, .int .u8 c] w fun e w' => e = .returned (.bool (hasB s.data.toList c)) ∧ w' = w := by
  unfold maxLen at hs
  go_enter Try.func10, Try.ntmps10
  go_wp2
  go_loop [5] (fun i => ∃ k : Nat, k ≤ s.size ∧ i = .int .i64 k ∧ hasB (s.data.toList.take k) c = false) (fun i => s.size - (intOf i).toNat)
  case atStart => exact ⟨0, Nat.zero_le _, rfl, by simp [hasB]⟩
  case round =>
    obtain ⟨k, hk, rfl, hno⟩ := hrel
    have HN : Hid (hasB (s.data.toList.take k) c = false) := hno
    clear hno
    by_cases hlt : k < s.size
    · go_wp2
      · go_ret
        exact ⟨ret_bool (hasB_yes s k hlt c ‹_›).symm, rfl⟩
      · go_round
        case rel => exact ⟨k + 1, by omega, by go_num, by rw [take_snoc s k hlt, hasB_snoc, HN.out, Bool.false_or]; exact ‹_›⟩
        case measure => simp [intOf]; omega
    · go_wp2
      go_ret
      have := HN.out
      rw [List.take_of_length_le (by simp; omega)] at this
      exact ⟨ret_bool this.symm, rfl⟩

/-- the first letter of the word of number k (plain) -/
def letter (k : Int) : Int := if k == 0 then 121 else if k == 1 then 89 else if k == 2 then 121 else if k == 3 then 89 else if k == 4 then 89 else if k == 5 then 110 else if k == 6 then 78 else if k == 7 then 110 else if k == 8 then 78 else if k == 9 then 78 else if k == 10 then 116 else if k == 11 then 84 else if k == 12 then 84 else if k == 13 then 102 else if k == 14 then 70 else if k == 15 then 70 else if k == 16 then 111 else if k == 17 then 79 else if k == 18 then 79 else if k == 19 then 111 else if k == 20 then 79 else if k == 21 then 79 else 0

set_option maxHeartbeats 1000000 in
theorem zzBoolWord_any (k : Nat) (hk : k < 22) (w : World) :
    Calls Try.prog 7 #[.int .i64 k] w fun e w' => ∃ s : ByteArray, e = .returned (.string s) ∧ w' = w ∧ ∃ h : 0 < s.size, (s[0].toNat : Int) = letter k := by
  go_enter Try.func7, Try.ntmps7
  go_wp2
  all_goals
    go_ret
    exact ⟨_, rfl, rfl, by decide, by simp [letter, *]; rfl⟩

end Go.Proofs.Qxb6605750a.yam
