/-
  How wide a rune is, byte by byte: the model's decode in the form of the law's own seqLen. No Go program in sight. Ours.
-/
import Derived.Lib.RuneCount
namespace Go.Proofs.Qxb6614099aFmt.sq

/-- the byte at place i, 0 beyond the end -/
def bAt (s : ByteArray) (i : Nat) : Nat := (s.get! i).toNat
theorem bAt_lt (s : ByteArray) (i : Nat) : bAt s i < 256 := (s.get! i).toNat_lt
theorem bAt_eq (s : ByteArray) (i : Nat) (h : i < s.size) : s[i].toNat = bAt s i := by
  unfold bAt
  have : s.get! i = s[i] := by
    show s.data[i]! = s.data[i]
    rw [getElem!_pos]
  rw [this]

/-- the width of the rune at k -/
def wid (s : ByteArray) (k : Nat) : Nat := (Utf8.decode s k).2

theorem wid_eq (s : ByteArray) (k : Nat) : wid s k =
    if bAt s k < 128 then 1
    else if bAt s k / 32 = 6 ∧ k + 1 < s.size ∧ bAt s (k + 1) / 64 = 2 then (if bAt s k % 32 * 64 + bAt s (k + 1) % 64 ≥ 128 then 2 else 1)
    else if (bAt s k / 16 = 14 ∧ k + 1 < s.size ∧ bAt s (k + 1) / 64 = 2) ∧ k + 2 < s.size ∧ bAt s (k + 2) / 64 = 2 then
      (if bAt s k % 16 * 4096 + bAt s (k + 1) % 64 * 64 + bAt s (k + 2) % 64 ≥ 2048 ∧ Utf8.valid (bAt s k % 16 * 4096 + bAt s (k + 1) % 64 * 64 + bAt s (k + 2) % 64 : Nat) = true then 3 else 1)
    else if ((bAt s k / 8 = 30 ∧ k + 1 < s.size ∧ bAt s (k + 1) / 64 = 2) ∧ k + 2 < s.size ∧ bAt s (k + 2) / 64 = 2) ∧ k + 3 < s.size ∧ bAt s (k + 3) / 64 = 2 then
      (if bAt s k % 8 * 262144 + bAt s (k + 1) % 64 * 4096 + bAt s (k + 2) % 64 * 64 + bAt s (k + 3) % 64 ≥ 65536 ∧ Utf8.valid (bAt s k % 8 * 262144 + bAt s (k + 1) % 64 * 4096 + bAt s (k + 2) % 64 * 64 + bAt s (k + 3) % 64 : Nat) = true then 4 else 1)
    else 1 := by
  unfold wid Utf8.decode
  simp only [Nat.add_zero, Bool.and_eq_true, beq_iff_eq, decide_eq_true_eq, apply_ite Prod.snd]
  rfl
theorem wid_le (s : ByteArray) (k : Nat) : wid s k ≤ 4 := by
  rw [wid_eq]
  repeat' split
  all_goals omega
theorem valid_iff (c : Nat) : Utf8.valid (c : Int) = true ↔ c < 55296 ∨ (57344 ≤ c ∧ c ≤ 1114111) := by
  simp only [Utf8.valid, Bool.or_eq_true, Bool.and_eq_true, decide_eq_true_eq]
  omega

section
variable {s : ByteArray} {k : Nat}
theorem wid_lo (h : bAt s k < 194) : wid s k = 1 := by
  have hb := bAt_lt s (k + 1)
  rw [wid_eq]
  repeat' split
  all_goals first | rfl | (exfalso; omega)
theorem wid_hi (h : 244 < bAt s k) : wid s k = 1 := by
  have h0 := bAt_lt s k
  have hb := bAt_lt s (k + 1)
  rw [wid_eq]
  simp only [valid_iff]
  repeat' split
  all_goals first | rfl | (exfalso; omega)
/-- a continuation of one byte -/
theorem wid_two (h0 : 194 ≤ bAt s k) (h1 : bAt s k ≤ 223) : wid s k = if k + 1 < s.size ∧ 128 ≤ bAt s (k + 1) ∧ bAt s (k + 1) ≤ 191 then 2 else 1 := by
  have hb := bAt_lt s (k + 1)
  rw [wid_eq]
  repeat' split
  all_goals first | rfl | (exfalso; omega)
theorem wid_three (h0 : 224 ≤ bAt s k) (h1 : bAt s k ≤ 239) :
    wid s k = if k + 2 < s.size ∧ (if bAt s k = 224 then 160 else 128) ≤ bAt s (k + 1) ∧ bAt s (k + 1) ≤ (if bAt s k = 237 then 159 else 191) ∧ 128 ≤ bAt s (k + 2) ∧ bAt s (k + 2) ≤ 191 then 3 else 1 := by
  have hb := bAt_lt s (k + 1)
  have hb2 := bAt_lt s (k + 2)
  rw [wid_eq]
  simp only [valid_iff]
  by_cases e1 : bAt s k = 224
  · rw [if_pos e1, if_neg (by omega : ¬ bAt s k = 237)]
    repeat' split
    all_goals first | rfl | (exfalso; omega)
  · rw [if_neg e1]
    by_cases e2 : bAt s k = 237
    · rw [if_pos e2]
      repeat' split
      all_goals first | rfl | (exfalso; omega)
    · rw [if_neg e2]
      repeat' split
      all_goals first | rfl | (exfalso; omega)
theorem wid_four (h0 : 240 ≤ bAt s k) (h1 : bAt s k ≤ 244) :
    wid s k = if k + 3 < s.size ∧ (if bAt s k = 240 then 144 else 128) ≤ bAt s (k + 1) ∧ bAt s (k + 1) ≤ (if bAt s k = 244 then 143 else 191) ∧ (128 ≤ bAt s (k + 2) ∧ bAt s (k + 2) ≤ 191) ∧ 128 ≤ bAt s (k + 3) ∧ bAt s (k + 3) ≤ 191 then 4 else 1 := by
  have hb := bAt_lt s (k + 1)
  have hb2 := bAt_lt s (k + 2)
  have hb3 := bAt_lt s (k + 3)
  rw [wid_eq]
  simp only [valid_iff]
  by_cases e1 : bAt s k = 240
  · rw [if_pos e1, if_neg (by omega : ¬ bAt s k = 244)]
    repeat' split
    all_goals first | rfl | (exfalso; omega)
  · rw [if_neg e1]
    by_cases e2 : bAt s k = 244
    · rw [if_pos e2]
      repeat' split
      all_goals first | rfl | (exfalso; omega)
    · rw [if_neg e2]
      repeat' split
      all_goals first | rfl | (exfalso; omega)
end

/-- the width at k where the first byte asks for nd bytes more, the first of them between lo and hi -/
structure Wd (s : ByteArray) (k lo hi nd : Nat) : Prop where
  short : ¬ k + nd < s.size → wid s k = 1
  bad1 : k + nd < s.size → bAt s (k + 1) < lo ∨ hi < bAt s (k + 1) → wid s k = 1
  bad : k + nd < s.size → ∀ i, 2 ≤ i → i ≤ nd → bAt s (k + i) < 128 ∨ 191 < bAt s (k + i) → wid s k = 1
  good : k + nd < s.size → lo ≤ bAt s (k + 1) → bAt s (k + 1) ≤ hi → (∀ i, 2 ≤ i → i ≤ nd → 128 ≤ bAt s (k + i) ∧ bAt s (k + i) ≤ 191) → wid s k = nd + 1

section
variable {s : ByteArray} {k : Nat}
theorem wd_two (h0 : 194 ≤ bAt s k) (h1 : bAt s k ≤ 223) : Wd s k 128 191 1 := by
  have h := wid_two h0 h1
  refine ⟨fun a => ?_, fun a b => ?_, fun a i b c => by omega, fun a b c d => ?_⟩
  · rw [h, if_neg (by omega)]
  · rw [h, if_neg (by omega)]
  · rw [h, if_pos (by omega)]
theorem wd_three (h0 : 224 ≤ bAt s k) (h1 : bAt s k ≤ 239) {lo hi : Nat} (hlo : (if bAt s k = 224 then 160 else 128) = lo) (hhi : (if bAt s k = 237 then 159 else 191) = hi) : Wd s k lo hi 2 := by
  have h := wid_three h0 h1
  rw [hlo, hhi] at h
  refine ⟨fun a => ?_, fun a b => ?_, fun a i b c d => ?_, fun a b c d => ?_⟩
  · rw [h, if_neg (by omega)]
  · rw [h, if_neg (by omega)]
  · obtain rfl : i = 2 := by omega
    rw [h, if_neg (by omega)]
  · have := d 2 (by omega) (by omega)
    rw [h, if_pos (by omega)]
theorem wd_four (h0 : 240 ≤ bAt s k) (h1 : bAt s k ≤ 244) {lo hi : Nat} (hlo : (if bAt s k = 240 then 144 else 128) = lo) (hhi : (if bAt s k = 244 then 143 else 191) = hi) : Wd s k lo hi 3 := by
  have h := wid_four h0 h1
  rw [hlo, hhi] at h
  refine ⟨fun a => ?_, fun a b => ?_, fun a i b c d => ?_, fun a b c d => ?_⟩
  · rw [h, if_neg (by omega)]
  · rw [h, if_neg (by omega)]
  · have e : i = 2 ∨ i = 3 := by omega
    rcases e with rfl | rfl
    · rw [h, if_neg (by omega)]
    · rw [h, if_neg (by omega)]
  · have d2 := d 2 (by omega) (by omega)
    have d3 := d 3 (by omega) (by omega)
    rw [h, if_pos (by omega)]
end
end Go.Proofs.Qxb6614099aFmt.sq
