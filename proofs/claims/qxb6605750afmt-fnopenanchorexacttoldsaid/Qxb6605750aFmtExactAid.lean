/-
  Small aids for the walk of FnOpenAnchorExact. Ours.
-/
import Derived.Test.Qxb6605750aFmtExactMem
import Derived.Test.Qxb6605750aFmtFail
import Derived.Test.Qxb6605750aFmtReopenWalk
import Derived.Deep.RegionWith
import Derived.BigRegion
namespace Go.Proofs.Qxb6605750aFmt.anc
open Go.RowKit Go.Maps Go.Extern.Stop Go.Stop Go.Extern

theorem sumN_ge (g : Nat → Nat) : ∀ n k, k < n → g k ≤ sumN g n
  | 0, _, h => by omega
  | n + 1, k, h => by
    rw [sumN]
    by_cases e : k = n
    · subst e; omega
    · have := sumN_ge g n k (by omega); omega

theorem Bytes.up {w w' : World} {a : Option Addr} {l : Nat} (h : Bytes w a l) (hb : Below w.heap.size w w') : Bytes w' a l := by
  intro k hk
  obtain ⟨b, o, x, ha, hc⟩ := h k hk
  exact ⟨b, o, x, ha, (hb.cell (p := ⟨b, o + k, none⟩) (cell_lt hc)).trans hc⟩

theorem anchorOf_none {w : World} {cb mb : Nat} {f : List UInt8 → Option Value} {c : Nat} {kept : Int} (h : Comp w cb mb f c kept) (s : ByteArray) (hs : s.size ≤ maxLen) (hf : f s.data.toList = none) :
    Calls Tryf.prog 10 #[.pointer (some ⟨cb, 0, none⟩), .string s] w fun e w' => e = .returned (.pointer none) ∧ w' = w := by
  refine (anchorOf_any h s hs).mono ?_
  rw [hf]
  exact fun e w' h => h

theorem zzOpen_no {cb mb : Nat} {s : ByteArray} {l : Int} {w : World} {f : List UInt8 → Option Value} {c : Nat} {kept : Int}
    (h : Calls Tryf.prog 19 #[.pointer (some ⟨cb, 0, none⟩), .string s, .int .i64 l] w fun e w' => ∃ p, e = .returned (.tuple #[.pointer none, .iface 79 (.pointer (some p))]) ∧ Comp w' cb mb f c kept ∧ Turn [cb, mb] w w') :
    Calls Tryf.prog 11 #[.pointer (some ⟨cb, 0, none⟩), .string s, .int .i64 l] w fun e w' => ∃ p, e = .returned (.tuple #[.pointer none, .iface 79 (.pointer (some p))]) ∧ Comp w' cb mb f c kept ∧ Turn [cb, mb] w w' := by
  refine (zzOpen_of (Q := fun x y w' => x = none ∧ ∃ p, y = .iface 79 (.pointer (some p)) ∧ Comp w' cb mb f c kept ∧ Turn [cb, mb] w w') (h.mono fun e w' ⟨p, he, hr⟩ => ⟨none, _, he, rfl, p, rfl, hr⟩)).mono ?_
  rintro e w' ⟨x, y, rfl, rfl, p, rfl, hr⟩
  exact ⟨p, rfl, hr⟩

end Go.Proofs.Qxb6605750aFmt.anc
