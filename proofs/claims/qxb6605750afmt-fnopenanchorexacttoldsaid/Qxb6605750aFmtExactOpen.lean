/-
  The two slices of FnOpenAnchorExact, opened. Ours.
-/
import Derived.Test.Qxb6605750aFmtExactMem
import Derived.ProofKit
import Derived.Deep.Matrix
import Derived.SliceStrings
namespace Go.Proofs.Qxb6605750aFmt.anc
open Go.RowKit Go.Maps Go.ChangeShapes Go.WideShapes

theorem addr_plain {w : World} {a : Addr} {v : Value} (h : w.cell? (a.add 0) = some v) : a = ⟨a.block, a.off, none⟩ := by
  obtain ⟨b, o, s⟩ := a
  cases s with
  | none => rfl
  | some x =>
    simp only [Addr.add, World.cell?] at h
    split at h <;> simp at h
theorem addr_at {w : World} {a : Addr} {i : Nat} {v : Value} (ha : a = ⟨a.block, a.off, none⟩) (h : w.cell? (a.add i) = some v) : w.cell? ⟨a.block, a.off + i, none⟩ = some v := by
  obtain ⟨b, o, s⟩ := a
  cases s with
  | none =>
    simp only [Addr.add] at h
    split at h
    · rename_i e; subst e; exact h
    · exact h
  | some x => cases ha

section
variable {H : Type} {enc : TypeId × Value → H} {W : World} {d : DataW H} {p : List MemPlace}

theorem names_open {na : Option Addr} {n nc : Nat} (h : DataW.Trod enc Tryf.prog W 0 (fun _ => true) true 22 (.slice na n nc) d p) :
    n ≤ maxLen ∧ ∃ nm : Nat → ByteArray, Cells W na n (fun i => .string (nm i)) ∧ ∀ i, i < n → (nm i).size ≤ maxLen := by
  obtain ⟨fuel, hf⟩ := h
  rcases open_strings Tryf.underlying22 Tryf.underlying9 (by kernel_rfl) hf with ⟨hcs, hx⟩ | ⟨a, len, cap, ss, hcs, _, hl, hm, hz, hx, hcell, hws⟩
  · simp [Value.cells] at hcs
    obtain ⟨rfl, rfl, rfl⟩ := hcs
    exact ⟨Nat.zero_le _, fun _ => ByteArray.empty, fun k hk => (by omega), fun i hi => (by omega)⟩
  · simp [Value.cells] at hcs
    obtain ⟨rfl, rfl, rfl⟩ := hcs
    simp only [if_true] at hz
    refine ⟨by omega, fun i => ss.getD i ByteArray.empty, fun k hk => ?_, fun i hi => ?_⟩
    · have h1 := addr_plain (hcell 0 (by omega))
      exact ⟨a.block, a.off, congrArg some h1, addr_at h1 (hcell k (by omega))⟩
    · refine hws _ ?_
      show ss.getD i ByteArray.empty ∈ ss
      rw [List.getD_eq_getElem?_getD, List.getElem?_eq_getElem (by omega)]
      exact List.getElem_mem _

theorem jsons_open {ja : Option Addr} {m jc : Nat} (h : DataW.Trod enc Tryf.prog W 0 (fun _ => true) true 23 (.slice ja m jc) d p) :
    m ≤ maxLen ∧ ∃ (ba : Nat → Option Addr) (bl bc : Nat → Nat), Cells W ja m (fun i => .slice (ba i) (bl i) (bc i)) ∧ (∀ i, i < m → Bytes W (ba i) (bl i)) ∧ (∀ i, i < m → ba i = none → bl i = 0) ∧ ∀ i, i < m → bl i ≤ maxLen := by
  obtain ⟨fuel, hf⟩ := h
  rcases Deep.open_int_rows Tryf.underlying23 Tryf.underlying25 Tryf.underlying5 (by kernel_rfl) (by kernel_rfl) hf with ⟨hcs, hx⟩ | ⟨a, len, cap, A, L, C, Z, hcs, _, hl, hm, hx, hr⟩
  · simp [Value.cells] at hcs
    obtain ⟨rfl, rfl, rfl⟩ := hcs
    exact ⟨Nat.zero_le _, fun _ => none, fun _ => 0, fun _ => 0, fun k hk => (by omega), fun i hi => (by omega), fun i hi => (by omega), fun i hi => (by omega)⟩
  · simp [Value.cells] at hcs
    obtain ⟨rfl, rfl, rfl⟩ := hcs
    refine ⟨by omega, A, L, C, fun k hk => ?_, fun i hi => ?_, fun i hi he => ?_, fun i hi => ?_⟩
    · have h1 := addr_plain (hr 0 (by omega)).1
      exact ⟨a.block, a.off, congrArg some h1, addr_at h1 (hr k (by omega)).1⟩
    · intro k hk
      obtain ⟨_, h1, _, _, _, h2, h3⟩ := hr i (by omega)
      cases hA : A i with
      | none => have := h2 hA; omega
      | some a' =>
        have h4 := addr_plain ((h3 a' hA).2 0 (by omega))
        exact ⟨a'.block, a'.off, _, congrArg some h4, addr_at h4 ((h3 a' hA).2 k (by omega))⟩
    · obtain ⟨_, h1, _, _, _, h2, _⟩ := hr i (by omega)
      have := h2 he
      omega
    · obtain ⟨_, h1, h2, _⟩ := hr i (by omega)
      omega
end
end Go.Proofs.Qxb6605750aFmt.anc
