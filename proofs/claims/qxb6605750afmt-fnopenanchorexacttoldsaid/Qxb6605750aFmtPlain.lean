/-
  The plain side of FnOpenAnchorExact: names in a row, the last of each kept. No Go program in sight. Ours.
-/
import Derived.Test.Qxb6605750aFmtMapView
namespace Go.Proofs.Qxb6605750aFmt.anc

def seenK (l : List (List UInt8 × Nat)) (s : List UInt8) : Bool := l.any fun p => p.1 == s
def cntK : List (List UInt8 × Nat) → Nat
  | [] => 0
  | x :: r => cntK r + if seenK r x.1 then 0 else 1
def sumK : List (List UInt8 × Nat) → Nat
  | [] => 0
  | x :: r => sumK r + if seenK r x.1 then 0 else x.1.length + x.2
def oldK (nm : List UInt8) : List (List UInt8 × Nat) → Nat
  | [] => 0
  | x :: r => if seenK r x.1 then oldK nm r else if x.1 = nm then x.2 else oldK nm r

/-- the names from the i-th on, each with its node's length -/
def suf (key : Nat → List UInt8) (jl : Nat → Nat) (n i : Nat) : List (List UInt8 × Nat) := (List.range' i (n - i)).map fun k => (key k, jl k)

theorem suf_cons (key : Nat → List UInt8) (jl : Nat → Nat) {n i : Nat} (h : i < n) : suf key jl n i = (key i, jl i) :: suf key jl n (i + 1) := by
  unfold suf
  rw [show n - i = (n - (i + 1)) + 1 from by omega, List.range'_succ]
  simp
theorem suf_end (key : Nat → List UInt8) (jl : Nat → Nat) (n : Nat) : suf key jl n n = [] := by simp [suf]

theorem seenK_cons (x : List UInt8 × Nat) (r : List (List UInt8 × Nat)) (s : List UInt8) : seenK (x :: r) s = (x.1 == s || seenK r s) := by simp [seenK]

theorem seenK_suf (key : Nat → List UInt8) (jl : Nat → Nat) (n i : Nat) (s : List UInt8) : seenK (suf key jl n i) s = true ↔ ∃ k, i ≤ k ∧ k < n ∧ key k = s := by
  simp only [seenK, suf, List.any_map, List.any_eq_true, List.mem_range'_1, Function.comp, beq_iff_eq]
  constructor
  · rintro ⟨k, ⟨h1, h2⟩, h3⟩; exact ⟨k, h1, by omega, h3⟩
  · rintro ⟨k, h1, h2, h3⟩; exact ⟨k, ⟨h1, by omega⟩, h3⟩
theorem seenK_suf_no {key : Nat → List UInt8} {jl : Nat → Nat} {n i : Nat} {s : List UInt8} (h : seenK (suf key jl n i) s = false) {k : Nat} (h1 : i ≤ k) (h2 : k < n) : key k ≠ s := by
  intro e
  have := (seenK_suf key jl n i s).2 ⟨k, h1, h2, e⟩
  rw [h] at this
  cases this

theorem cntK_le (l : List (List UInt8 × Nat)) : cntK l ≤ l.length := by
  induction l with
  | nil => simp [cntK]
  | cons x r ih => simp only [cntK, List.length_cons]; split <;> omega
theorem sumK_le (B : Nat) (l : List (List UInt8 × Nat)) (h : ∀ x, x ∈ l → x.1.length + x.2 ≤ B) : sumK l ≤ l.length * B := by
  induction l with
  | nil => simp [sumK]
  | cons x r ih =>
    have h1 := ih (fun y hy => h y (by simp [hy]))
    have h2 := h x (by simp)
    simp only [sumK, List.length_cons, Nat.succ_mul]
    generalize r.length * B = z at *
    split <;> omega
theorem suf_length (key : Nat → List UInt8) (jl : Nat → Nat) (n i : Nat) : (suf key jl n i).length = n - i := by simp [suf]
theorem cnt_bound (key : Nat → List UInt8) (jl : Nat → Nat) (n i : Nat) : cntK (suf key jl n i) ≤ n := by
  have := cntK_le (suf key jl n i)
  rw [suf_length] at this
  omega
theorem sum_bound {key : Nat → List UInt8} {jl : Nat → Nat} {n : Nat} (h : ∀ k, k < n → (key k).length + jl k ≤ 2097152) (hn : n ≤ 1048576) (i : Nat) : sumK (suf key jl n i) ≤ 2199023255552 := by
  have h1 := sumK_le 2097152 (suf key jl n i) (fun x hx => by
    simp only [suf, List.mem_map, List.mem_range'_1] at hx
    obtain ⟨k, ⟨h1, h2⟩, rfl⟩ := hx
    exact h k (by omega))
  rw [suf_length] at h1
  have h2 : (n - i) * 2097152 ≤ 1048576 * 2097152 := Nat.mul_le_mul_right _ (by omega)
  exact Nat.le_trans h1 (Nat.le_trans h2 (by decide))
theorem old_bound (nm : List UInt8) (B : Nat) (l : List (List UInt8 × Nat)) (h : ∀ x, x ∈ l → x.2 ≤ B) : oldK nm l ≤ B := by
  induction l with
  | nil => simp [oldK]
  | cons x r ih =>
    have h1 := ih (fun y hy => h y (by simp [hy]))
    have h2 := h x (by simp)
    simp only [oldK]
    split
    · exact h1
    · split
      · exact h2
      · exact h1

/-- the last of the name's places: what oldK gives, and that sumK counts it -/
theorem last_of (nm : List UInt8) (key : Nat → List UInt8) (jl : Nat → Nat) (n : Nat) : ∀ d i, i + d = n → seenK (suf key jl n i) nm = true →
    ∃ k, i ≤ k ∧ k < n ∧ key k = nm ∧ (∀ k', k < k' → k' < n → key k' ≠ nm) ∧ oldK nm (suf key jl n i) = jl k ∧ nm.length + jl k ≤ sumK (suf key jl n i) := by
  intro d
  induction d with
  | zero =>
    intro i hi h
    obtain rfl : i = n := by omega
    rw [suf_end] at h
    simp [seenK] at h
  | succ d ih =>
    intro i hi h
    have hlt : i < n := by omega
    rw [suf_cons key jl hlt] at h ⊢
    simp only [oldK, sumK]
    cases hs : seenK (suf key jl n (i + 1)) nm with
    | true =>
      obtain ⟨k, h1, h2, h3, h4, h5, h6⟩ := ih (i + 1) (by omega) hs
      refine ⟨k, by omega, h2, h3, h4, ?_, by omega⟩
      split
      · exact h5
      · rename_i hn
        rw [if_neg (fun e => hn (by rw [e]; exact hs))]
        exact h5
    | false =>
      rw [seenK_cons, hs, Bool.or_false, beq_iff_eq] at h
      simp only at h
      refine ⟨i, Nat.le_refl _, hlt, h, fun k' h1 h2 => seenK_suf_no hs (by omega) h2, ?_, ?_⟩
      · rw [if_neg (by rw [h, hs]; simp), if_pos h]
      · rw [if_neg (by rw [h, hs]; simp), h]; omega

/-! ### the map that the puts make -/
def ptr (b : Nat) : Value := .pointer (some ⟨b, 0, none⟩)
def mapTo (key : Nat → List UInt8) (N : Nat) : Nat → List UInt8 → Option Value
  | 0 => fun _ => none
  | k + 1 => upd (mapTo key N k) (key k) (ptr (N + k))
def cntTo (key : Nat → List UInt8) (N : Nat) : Nat → Nat
  | 0 => 0
  | k + 1 => more (mapTo key N k) (key k) (cntTo key N k)

theorem mapTo_none (key : Nat → List UInt8) (N : Nat) (s : List UInt8) : ∀ n, (∀ k, k < n → key k ≠ s) → mapTo key N n s = none
  | 0, _ => rfl
  | n + 1, h => by
    rw [mapTo, upd_other _ _ (h n (by omega)).symm]
    exact mapTo_none key N s n (fun k hk => h k (by omega))
theorem mapTo_last (key : Nat → List UInt8) (N : Nat) (s : List UInt8) : ∀ n k, k < n → key k = s → (∀ k', k < k' → k' < n → key k' ≠ s) → mapTo key N n s = some (ptr (N + k))
  | 0, _, h, _, _ => by omega
  | n + 1, k, h1, h2, h3 => by
    by_cases e : k = n
    · subst e
      rw [mapTo, h2]
      exact upd_same _ _ _
    · rw [mapTo, upd_other _ _ (h3 n (by omega) (by omega)).symm]
      exact mapTo_last key N s n k (by omega) h2 (fun k' a b => h3 k' a (by omega))
theorem mapTo_isSome (key : Nat → List UInt8) (N : Nat) (s : List UInt8) : ∀ n, (mapTo key N n s).isSome = true ↔ ∃ k, k < n ∧ key k = s
  | 0 => by simp [mapTo]
  | n + 1 => by
    have ih := mapTo_isSome key N s n
    by_cases e : s = key n
    · subst e
      rw [mapTo, upd_same]
      simp only [Option.isSome_some, true_iff]
      exact ⟨n, by omega, rfl⟩
    · rw [mapTo, upd_other _ _ e, ih]
      constructor
      · rintro ⟨k, h1, h2⟩; exact ⟨k, by omega, h2⟩
      · rintro ⟨k, h1, h2⟩
        refine ⟨k, ?_, h2⟩
        rcases Nat.lt_succ_iff_lt_or_eq.1 h1 with h | rfl
        · exact h
        · exact absurd h2.symm e

/-- the count is the same from either end -/
theorem cntK_snoc (l : List (List UInt8 × Nat)) (x : List UInt8 × Nat) : cntK (l ++ [x]) = cntK l + if seenK l x.1 then 0 else 1 := by
  induction l with
  | nil => simp [cntK, seenK]
  | cons y r ih =>
    have hs : seenK (r ++ [x]) y.1 = (seenK r y.1 || x.1 == y.1) := by simp [seenK]
    simp only [List.cons_append, cntK, ih, hs, seenK_cons]
    by_cases e : x.1 = y.1
    · rw [e]
      simp
    · have e1 : (x.1 == y.1) = false := by simpa using e
      have e2 : (y.1 == x.1) = false := by simpa using fun h => e h.symm
      rw [e1, e2]
      simp
      omega
theorem cntTo_eq (key : Nat → List UInt8) (jl : Nat → Nat) (N : Nat) : ∀ n, cntTo key N n = cntK (suf key jl n 0)
  | 0 => rfl
  | n + 1 => by
    have hs : suf key jl (n + 1) 0 = suf key jl n 0 ++ [(key n, jl n)] := by
      simp [suf, List.range'_concat]
    rw [hs, cntK_snoc, cntTo, cntTo_eq key jl N n, more]
    have : (mapTo key N n (key n)).isSome = seenK (suf key jl n 0) (key n) := by
      rw [Bool.eq_iff_iff, mapTo_isSome, seenK_suf]
      simp
    rw [this]
    split <;> rfl

/-! ### the names that were seen, as a map -/
def seenF (l : List (List UInt8 × Nat)) (s : List UInt8) : Option Value := if seenK l s then some (.bool true) else none
theorem seenF_getD (l : List (List UInt8 × Nat)) (s : List UInt8) : (seenF l s).getD (.bool false) = .bool (seenK l s) := by
  unfold seenF
  cases seenK l s <;> rfl
theorem seenF_nil : seenF [] = fun _ => none := by funext s; simp [seenF, seenK]
theorem seenF_old {x : List UInt8 × Nat} {r : List (List UInt8 × Nat)} (h : seenK r x.1 = true) : seenF (x :: r) = seenF r := by
  funext s
  unfold seenF
  rw [seenK_cons]
  by_cases e : x.1 = s
  · subst e; rw [h]; simp
  · have : (x.1 == s) = false := by simpa using e
    rw [this, Bool.false_or]
theorem seenF_new (x : List UInt8 × Nat) (r : List (List UInt8 × Nat)) : upd (seenF r) x.1 (.bool true) = seenF (x :: r) := by
  funext s
  by_cases e : s = x.1
  · subst e; rw [upd_same]; simp [seenF, seenK_cons]
  · rw [upd_other _ _ e]
    have : (x.1 == s) = false := by simpa using fun h => e h.symm
    simp [seenF, seenK_cons, this]
theorem seenF_more {x : List UInt8 × Nat} {r : List (List UInt8 × Nat)} (h : seenK r x.1 = false) : more (seenF r) x.1 (cntK r) = cntK (x :: r) := by
  rw [more_new (by simp [seenF, h])]
  simp [cntK, h]
end Go.Proofs.Qxb6605750aFmt.anc
