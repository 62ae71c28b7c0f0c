/-
  The proof of 'Rows.FnURICharsAreEightyFourPrintablesSaid'. The frame is the seat's own shell; the plain law and the walk are ours.
-/
import Derived.Test.Qxb6605750aRows
import Derived.WalkKit
import Derived.ProofKit
import Derived.OpenShut
import Derived.ShutString
import Derived.Test.Qxb6605750aWordWalks
namespace Go.Proofs.Qxb6605750a.fnURICharsAreEightyFourPrintables
open Go.ChangeShapes Go.WideShapes Go.ChangeAt Go.RowKit
open Go.ChangeMaps (open_string shut_string)
set_option linter.unusedVariables false      -- a walk need not use every 'w<i>' (that an integer argument fits its kind)

theorem own : ownKnob Try.prog.godebug = none := by kernel_rfl

open Go.Proofs.Qxb6605750a.yam
/-! ### THE PLAIN LAW -/
/-- how many of the first k numbers the test takes -/
def cnt (p : Int → Bool) : Nat → Nat
  | 0 => 0
  | k + 1 => cnt p k + if p k then 1 else 0
theorem cnt_le (p : Int → Bool) (k : Nat) : cnt p k ≤ k := by
  induction k with
  | zero => simp [cnt]
  | succ k ih => simp only [cnt]; split <;> omega
theorem cnt_yes (p : Int → Bool) (k : Nat) (h : p k = true) : cnt p (k + 1) = cnt p k + 1 := by simp [cnt, h]
theorem cnt_no (p : Int → Bool) (k : Nat) (h : p k = false) : cnt p (k + 1) = cnt p k := by simp [cnt, h]
set_option maxRecDepth 100000 in
theorem cnt_all : cnt uriB 256 = 84 := by decide +kernel
set_option maxRecDepth 100000 in
theorem uri_facts0 : ∀ k : Fin 256, uriB (k.val : Int) = true → (33 ≤ (k.val : Int) ∧ (k.val : Int) ≤ 126) ∧ hasB [35, 123, 125, 60, 62, 94, 124, 96, 32] (k.val : Int) = false ∧ ((k.val : Int) == 34) = false ∧ ((k.val : Int) == 92) = false := by decide +kernel
theorem uri_facts (k : Nat) (hk : k < 256) (h : uriB k = true) : (33 ≤ (k : Int) ∧ (k : Int) ≤ 126) ∧ hasB [35, 123, 125, 60, 62, 94, 124, 96, 32] k = false ∧ ((k : Int) == 34) = false ∧ ((k : Int) == 92) = false :=
  uri_facts0 ⟨k, hk⟩ h

/-! ### STEP 1: THE WALK: the Go text returns true. 'Grown w w'': the world has at most new blocks (Derived/RowKit3.lean). Part the cases AHEAD of 'go_enter' where a test parts the walk; take each callee by a contract of your own. -/
set_option maxRecDepth 100000 in
theorem walk  (w : World) :
    Calls Try.prog 6 #[] w fun e w' => e = .returned (.bool true) ∧ Grown w w' := by
  go_enter Try.func6, Try.ntmps6
  go_wp2
  go_loop [1, 2] (fun n i => ∃ k : Nat, k ≤ 256 ∧ i = .int .i64 k ∧ n = .int .i64 (cnt uriB k)) (fun _ i => 256 - (intOf i).toNat)
  case atStart => exact ⟨0, Nat.zero_le _, rfl, rfl⟩
  case round =>
    obtain ⟨k, hk, rfl, rfl⟩ := hrel
    have hc := cnt_le uriB k
    by_cases hlt : k < 256
    · cases hl : uriB k
      · have HS : Hid (cnt uriB (k + 1) = cnt uriB k) := cnt_no uriB k hl
        go_wp2_with (first | (go_at_call 9; refine (zzIsURI_any _ _).mono ?_; rintro e w' ⟨rfl, rfl⟩))
        go_round
        case rel => exact ⟨k + 1, by omega, by go_num, by rw [HS.out]⟩
        case measure => simp [intOf]; omega
      · have HS : Hid (cnt uriB (k + 1) = cnt uriB k + 1) := cnt_yes uriB k hl
        obtain ⟨⟨hr1, hr2⟩, hx, hu, hv⟩ := uri_facts k hlt hl
        go_wp2_with (first | (go_at_call 10; refine (zzHasByte_any _ _ _ (by decide)).mono ?_; rintro e w' ⟨rfl, rfl⟩) | (go_at_call 9; refine (zzIsURI_any _ _).mono ?_; rintro e w' ⟨rfl, rfl⟩))
        go_round
        case rel => exact ⟨k + 1, by omega, by go_num, by rw [HS.out]; go_num⟩
        case measure => simp [intOf]; omega
    · obtain rfl : k = 256 := by omega
      have ht := cnt_all
      go_wp2
      go_ret
      exact ⟨rfl, Grown.refl _⟩

/-! ### THE ROW's STEP: WRITTEN OUT -/
set_option maxRecDepth 100000 in
theorem lifted (os : Os) (started : os.Started) (H : Type) (enc : TypeId × Value → H) :
    ReturnsInHanded {} Try.checked os 6 .any (Rows.fnURICharsAreEightyFourPrintablesSpec.pre6 enc Try.prog Try.f6 Rows.fnURICharsAreEightyFourPrintablesRow.domain false) (Rows.fnURICharsAreEightyFourPrintablesSpec.post enc Try.prog Try.f6 false true false false) := by
  refine returnsInHanded_of_change (C := Try.checked) own started (by kernel_rfl) Try.func6
    (ChangeSpec.witness6 (enc := enc) (C := Try.checked) false ⟨#[], #[], []⟩ 8 (by kernel_rfl) (by kernel_rfl) (by kernel_rfl) (by kernel_rfl)) ?_
  intro W base args ds gs before hval0 hW hcnd _
  have hval : ∀ (j : Nat) t v, Try.f6.params[j]? = some t → args[j]? = some v → Value.okWide Try.prog W .any base t v := hval0
  have hW' := hW
  obtain ⟨p, q, hA0, hV, rfl, hfz, hnd⟩ := hW
  have hA : DataW.TrodAll enc Try.prog W 0 (fun _ => true) true Try.f6.params.toList args.toList ds p := hA0
  rw [Try.params6] at hA hval
  obtain ⟨rfl, rfl, rfl⟩ := trodAll_none hA
  obtain ⟨rfl, rfl⟩ := trodVars_none hV
  clear hA0 hval0
  simp only [List.append_nil] at hW'
  refine (walk  W).mono fun e W' ⟨he, hg⟩ => ?_
  subst he
  exact ⟨_, rfl, post_of_same (pa := []) (pv := []) hW' (fun _ _ _ => (trodAll_cons_mk (shut_bool Try.underlying4 _) trodAll_mk0)) (fun sp _ => rfl) (fun _ _ => rfl) rfl
    (hg.frame _) hg.2.1 (ok_one (by kernel_rfl) rfl (okWide_bool_mk Try.underlying4 _))⟩

theorem over : Rows.fnURICharsAreEightyFourPrintablesRow.holds Try.pinned (OpenSpec.ofChange Rows.fnURICharsAreEightyFourPrintablesSpec) :=
  OpenClaim.holds_of_wide 6 Try.f6 rfl rfl rfl rfl rfl rfl rfl ⟨rfl, rfl, rfl, rfl, rfl⟩ rfl rfl rfl rfl rfl (by kernel_rfl) Try.func6 (by kernel_rfl)
    (of_decide_eq_true (by kernel_rfl)) (by unfold Func.isWrapper; first | (rw [if_pos (by decide +kernel)]; kernel_rfl) | (rw [if_neg (by decide +kernel)]; exact ⟨rfl, rfl⟩))
    (fun os started H enc _ => lifted os started H enc)

/-- ████ THE STATEMENT ████ -/
theorem proved : Rows.FnURICharsAreEightyFourPrintablesSaid :=
  over
end Go.Proofs.Qxb6605750a.fnURICharsAreEightyFourPrintables
