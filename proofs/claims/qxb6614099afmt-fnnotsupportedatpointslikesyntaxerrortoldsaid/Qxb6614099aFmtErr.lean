/-
  Errorf over fmt's stop: a format of whatever make, no operands. Ours.
-/
import Derived.Test.Qxb6614099aFmtCards
import Derived.WalkKit
import Derived.WalkSpells
import Derived.WalkLawsBesides
import Derived.Stop.CallBack
import Derived.Stop.IfaceNil
namespace Go.Proofs.Qxb6614099aFmt.sq
open Go.RowKit Go.Extern.Stop Go.Stop Go.Extern

theorem call19 (args : Array Value) (w : World) : (callFunc 19 args).run Tryf.prog w = (FmtCalls.sprintf #[9, 39] #[9] args).run Tryf.prog w :=
  run_callFunc_next Tryf.func19 (by kernel_rfl) (by kernel_rfl) (by kernel_rfl) args w
theorem guard19 (name : String) (w : World) : (FmtStop.guard name).run Tryf.prog w = .ok () w := by kernel_rfl
theorem nextTurns : Extern.next FmtCalls.turnsRow = some (FmtCalls.begun #[] #[]) := by kernel_rfl

theorem walk_zero (fuel : Nat) : ∀ (k : Nat) (l : List UInt8), FmtDoors.walk 0 fuel k l [] = none ∨ ∃ k', FmtDoors.walk 0 fuel k l [] = some ([], k') := by
  induction fuel with
  | zero => intro k l; exact Or.inl (by cases l <;> rfl)
  | succ fuel ih =>
    intro k l
    cases l with
    | nil => exact Or.inr ⟨k, rfl⟩
    | cons c r =>
      unfold FmtDoors.walk
      split
      · exact ih k r
      · simp only
        repeat' split
        all_goals first | exact Or.inl rfl | exact Or.inr ⟨_, rfl⟩ | exact ih _ _ | skip
        all_goals
          rename_i h
          exact absurd (by simp) h

theorem printed_zero (f : ByteArray) : FmtStop.printed? f 0 = none ∨ FmtStop.printed? f 0 = some [] := by
  unfold FmtStop.printed?
  rcases walk_zero (f.size + 1) 0 f.data.toList with h | ⟨k', h⟩
  · rw [h]; exact Or.inl rfl
  · rw [h]; exact Or.inr (by simp)

set_option maxRecDepth 100000 in
set_option maxHeartbeats 1000000 in
theorem errorf_any (F : Interp) (code f : ByteArray) (w : World) (hF : F.answers w.tape) :
    Calls Tryf.prog 14 #[.string code, .string f, .slice none 0 0] w fun e w' => ∃ msg : ByteArray, e = .returned (.pointer (some ⟨w.heap.size, 0, none⟩)) ∧ w' = (w.alloc (.cells #[.string code, .string msg, .string ⟨#[]⟩, .string ⟨#[]⟩, .int .i64 0] 29)).drew := by
  have hF' := answers_open hF
  have h1 := call19
  have h2 := guard19
  rcases printed_zero f with h3 | h3
  · go_enter Tryf.func14, Tryf.ntmps14
    go_wp2
    go_ret
    exact ⟨_, rfl, rfl⟩
  · go_enter Tryf.func14, Tryf.ntmps14
    go_wp2
    apply rows_value nextTurns
    case hr => go_simp; exact ⟨rfl, rfl⟩
    case h =>
      go_wp2
      go_ret
      exact ⟨_, rfl, rfl⟩
end Go.Proofs.Qxb6614099aFmt.sq
