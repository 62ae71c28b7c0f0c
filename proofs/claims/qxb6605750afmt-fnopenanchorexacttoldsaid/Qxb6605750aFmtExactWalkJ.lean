/-
  The walk of FnOpenAnchorExact, its three ways joined. Ours.
-/
import Derived.Test.Qxb6605750aFmtExactWalkA
import Derived.Test.Qxb6605750aFmtExactWalkB
import Derived.Test.Qxb6605750aFmtExactWalkC
namespace Go.Proofs.Qxb6605750aFmt.anc
open Go.RowKit Go.Maps Go.Extern.Stop Go.Stop Go.Extern

theorem exact_walk (F : Interp) (kept line : Int) (name : ByteArray) (na ja : Option Addr) (n nc m jc : Nat) (nm : Nat → ByteArray) (ba : Nat → Option Addr) (bl bc : Nat → Nat) (w : World) (hF : F.answers w.tape)
    (hN : Cells w na n fun i => .string (nm i)) (hJ : Cells w ja m fun i => .slice (ba i) (bl i) (bc i)) (hBy : ∀ i, i < m → Bytes w (ba i) (bl i)) (h0 : ∀ i, i < m → ba i = none → bl i = 0)
    (hname : name.size ≤ maxLen) (hn : n ≤ maxLen) (hm : m ≤ maxLen) (hnm : ∀ i, i < n → (nm i).size ≤ maxLen) (hbl : ∀ i, i < m → bl i ≤ maxLen) :
    Calls Tryf.prog 3 #[.int .i64 kept, .slice na n nc, .slice ja m jc, .string name, .int .i64 line] w fun e w' => e = .returned (.bool true) ∧ Below w.heap.size w w' := by
  cases hp : seenK (SK nm m bl n 0) name.data.toList
  · by_cases hfull : 3145728 < kept + (name.size : Int)
    · exact exact_full F kept line name na ja n nc m jc nm ba bl bc w hF hN hJ hBy h0 hname hn hm hnm hbl hp hfull
    · exact exact_room F kept line name na ja n nc m jc nm ba bl bc w hF hN hJ hBy h0 hname hn hm hnm hbl hp hfull
  · exact exact_present F kept line name na ja n nc m jc nm ba bl bc w hF hN hJ hBy h0 hname hn hm hnm hbl hp
end Go.Proofs.Qxb6605750aFmt.anc
