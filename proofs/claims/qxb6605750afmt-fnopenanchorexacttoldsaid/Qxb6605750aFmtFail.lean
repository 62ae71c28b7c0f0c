/-
  The way to fmt: fail and keep's refusal. Ours.
-/
import Derived.Test.Qxb6605750aFmtBase
import Derived.Stop.CallBack
import Derived.Stop.IfaceNil
import Derived.WalkSpells
namespace Go.Proofs.Qxb6605750aFmt.anc
open Go.RowKit Go.Maps Go.Extern.Stop Go.Stop Go.Extern

theorem call22 (args : Array Value) (w : World) : (callFunc 22 args).run Tryf.prog w = (FmtCalls.sprintf #[9, 78] #[9] args).run Tryf.prog w :=
  run_callFunc_next Tryf.func22 (by kernel_rfl) (by kernel_rfl) (by kernel_rfl) args w
theorem guard22 (name : String) (w : World) : (FmtStop.guard name).run Tryf.prog w = .ok () w := by kernel_rfl
theorem nextTurns : Extern.next FmtCalls.turnsRow = some (FmtCalls.begun #[] #[]) := by kernel_rfl
theorem fmt0 : FmtStop.printed? ⟨#[116, 104, 101, 32, 100, 111, 99, 117, 109, 101, 110, 116, 39, 115, 32, 37, 37, 84, 65, 71, 32, 100, 105, 114, 101, 99, 116, 105, 118, 101, 115, 32, 97, 110, 100, 32, 97, 110, 99, 104, 111, 114, 115, 32, 104, 111, 108, 100, 32, 109, 111, 114, 101, 32, 116, 104, 97, 110, 32, 37, 100, 32, 98, 121, 116, 101, 115]⟩ 1 = some [(0, 100, false)] := by kernel_rfl
theorem act3 (name : String) (x : Value) (w : World) : (FmtCalls.act name false 100 false (.iface 3 x)).run Tryf.prog w = .ok (.closed false) w := by kernel_rfl
def shape3 : List UInt8 := [5, 3, 0, 0, 0, 0, 0, 0, 0, 105, 110, 116]
theorem op3 (name : String) (x : Int) (w : World) : (FmtStop.operand name false 100 false (.iface 3 (.int .i64 x))).run Tryf.prog w = .ok (shape3, Go.Extern.Stop.digits 8 (x % 2 ^ 64).toNat) w := by kernel_rfl

set_option maxRecDepth 100000 in
set_option maxHeartbeats 1000000 in
theorem fail_any (F : Interp) (line : Int) (ab : Nat) (w : World) (hF : F.answers w.tape) (hc : w.cell? ⟨ab, 0, none⟩ = some (.iface 3 (.int .i64 3145728))) :
    Calls Tryf.prog 21 #[.int .i64 line, .string ⟨#[116, 104, 101, 32, 100, 111, 99, 117, 109, 101, 110, 116, 39, 115, 32, 37, 37, 84, 65, 71, 32, 100, 105, 114, 101, 99, 116, 105, 118, 101, 115, 32, 97, 110, 100, 32, 97, 110, 99, 104, 111, 114, 115, 32, 104, 111, 108, 100, 32, 109, 111, 114, 101, 32, 116, 104, 97, 110, 32, 37, 100, 32, 98, 121, 116, 101, 115]⟩, .slice (some ⟨ab, 0, none⟩) 1 1] w fun e w' => ∃ p, e = .returned (.iface 79 (.pointer (some p))) ∧ Turn [] w w' := by
  have hF' := answers_open hF
  have h1 := call22
  have h2 := guard22
  have h3 := fmt0
  have h4 := act3
  have h5 := op3
  go_enter Tryf.func21, Tryf.ntmps21
  go_wp2
  apply rows_value nextTurns
  case hr => go_simp; exact ⟨rfl, rfl⟩
  case h =>
    go_wp2
    go_ret
    exact ⟨_, rfl, ((Turn.refl [] w).alloc _).drew⟩

section
variable {w : World} {cb mb : Nat} {f : List UInt8 → Option Value} {c : Nat} {kept : Int}

set_option maxRecDepth 100000 in
set_option maxHeartbeats 1000000 in
theorem keep_no (F : Interp) (hF : F.answers w.tape) (h : Comp w cb mb f c kept) (n line : Int) (h0 : 0 ≤ kept) (h1 : kept ≤ 3145728) (hn : 0 ≤ n) (hn1 : n ≤ 1048576) (h2 : 3145728 < kept + n) :
    Calls Tryf.prog 20 #[.pointer (some ⟨cb, 0, none⟩), .int .i64 n, .int .i64 line] w fun e w' => ∃ p, e = .returned (.iface 79 (.pointer (some p))) ∧ Turn [] w w' := by
  have c1 := h.k
  have HF := hide hF
  clear h hF
  go_enter Tryf.func20, Tryf.ntmps20
  go_wp2_with fail
  refine Calls.mono (fail_any F line w.heap.size _ (unhide HF) ?_) ?_
  · simp
  rintro e w1 ⟨p, rfl, ht⟩
  have HT := hide ht
  clear ht
  go_wp2
  go_ret
  exact ⟨p, rfl, ((Turn.refl [] w).alloc _).trans (unhide HT)⟩

set_option maxRecDepth 100000 in
set_option maxHeartbeats 1000000 in
theorem openAnchor_new_no (F : Interp) (hF : F.answers w.tape) (h : Comp w cb mb f c kept) (s : ByteArray) (hs : s.size ≤ maxLen) (hs1 : s.size ≤ 1048576) (line : Int) (hf : f s.data.toList = none) (h0 : 0 ≤ kept) (h1 : kept ≤ 3145728) (h2 : 3145728 < kept + s.size) :
    Calls Tryf.prog 19 #[.pointer (some ⟨cb, 0, none⟩), .string s, .int .i64 line] w fun e w' =>
      ∃ p, e = .returned (.tuple #[.pointer none, .iface 79 (.pointer (some p))]) ∧ Comp w' cb mb f c kept ∧ Turn [cb, mb] w w' := by
  have c1 := h.m
  have ho := h.o
  have H := hide h
  have HF := hide hF
  clear h hF
  go_enter Tryf.func19, Tryf.ntmps19
  go_wp2_with (first | (at_lookup; refine wpList_look _ rfl _ _ 43 rfl 9 31 Tryf.underlying9 Tryf.underlying43 (zero31 _) mb f c rfl ho s rfl hs ?_; rw [hf]))
  refine (keep_no F (unhide HF) (unhide H) _ line (by omega) (by omega) (by omega) (by omega) (by omega)).mono ?_
  rintro e w1 ⟨p, rfl, ht⟩
  have HC := hide ((unhide H).turn ht (by simp) (by simp))
  have HT := hide ht
  clear ht
  go_wp2
  go_ret2
  exact ⟨p, rfl, unhide HC, (unhide HT).mono (by simp)⟩

end
end Go.Proofs.Qxb6605750aFmt.anc
