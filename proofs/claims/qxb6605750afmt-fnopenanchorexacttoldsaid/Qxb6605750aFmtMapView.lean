/-
  A MAP KEYED BY STRINGS, AS A PARTIAL FUNCTION FROM NAMES TO VALUES, whatever the elements: over the library's 'ownsMap', its elements read by a token that is the value itself. And a relation on worlds: 'all blocks but those of S are as they were'. Ours.
-/
import Derived.WalkKit
import Derived.WalkSpells
import Derived.WalkLawsBesides
import Derived.Maps.OwnSet
import Derived.Maps.OwnOps
namespace Go.Proofs.Qxb6605750aFmt.anc
open Go.RowKit Go.Maps

theorem hide {p : Prop} (h : p) : Hid p := h
theorem unhide {p : Prop} (h : Hid p) : p := h
theorem ret_bool {a b : Bool} (h : a = b) : Ending.returned (.bool a) = .returned (.bool b) := by rw [h]

/-- an element reads as itself -/
def hR (v : Value) : Option (DataW Value × List MemPlace) := some (.held v, [])

/-- the datum says what f says -/
def Reads (D : DataW Value) (f : List UInt8 → Option Value) : Prop :=
  ∀ s, (f s = none → Maps.has D (.string s) = false) ∧ (∀ v, f s = some v → Maps.has D (.string s) = true ∧ ∀ z, D.atKey (.string s) z = .held v)

/-- f with v at the name s -/
def upd (f : List UInt8 → Option Value) (s : List UInt8) (v : Value) : List UInt8 → Option Value := fun t => if t = s then some v else f t

theorem upd_same (f : List UInt8 → Option Value) (s : List UInt8) (v : Value) : upd f s v s = some v := by simp [upd]
theorem upd_other (f : List UInt8 → Option Value) {s t : List UInt8} (v : Value) (h : t ≠ s) : upd f s v t = f t := by simp [upd, h]

/-- how many names there are behind a store at s, c before it -/
def more (f : List UInt8 → Option Value) (s : List UInt8) (c : Nat) : Nat := if (f s).isSome then c else c + 1
theorem more_old {f : List UInt8 → Option Value} {s : List UInt8} {v : Value} (h : f s = some v) (c : Nat) : more f s c = c := by simp [more, h]
theorem more_new {f : List UInt8 → Option Value} {s : List UInt8} (h : f s = none) (c : Nat) : more f s c = c + 1 := by simp [more, h]
theorem more_le (f : List UInt8 → Option Value) (s : List UInt8) (c : Nat) : more f s c ≤ c + 1 := by unfold more; split <;> omega

section
variable {P : Program} {k : TypeId} {w : World} {b c : Nat} {f : List UInt8 → Option Value}

/-- block b is a map of c entries: at the name s it has f s -/
def HoldsMap (w : World) (P : Program) (k : TypeId) (b : Nat) (f : List UInt8 → Option Value) (c : Nat) : Prop :=
  ∃ D : DataW Value, w.ownsMap P k hR b c D ∧ Maps.size D = c ∧ Tidy D ∧ Reads D f

theorem tight {n : Nat} {D : DataW Value} (h : w.ownsMap P k hR b n D) : w.ownsMap P k hR b (Maps.size D) D := by
  obtain ⟨es, clock, hb, F, hs, rfl⟩ := h
  exact ⟨es, clock, hb, F, by simp [Maps.size, length_sorted], rfl⟩

theorem HoldsMap.made (w : World) (P : Program) (k : TypeId) : HoldsMap (w.alloc (.map #[] 0)) P k w.heap.size (fun _ => none) 0 :=
  ⟨.map [], World.ownsMap_made w P k hR, rfl, tidy_empty, fun s => ⟨fun _ => rfl, fun v h => by cases h⟩⟩

theorem HoldsMap.lt (h : HoldsMap w P k b f c) : b < w.heap.size := by
  obtain ⟨D, ho, _⟩ := h
  exact ho.lt

theorem HoldsMap.of_block {w' : World} (h : HoldsMap w P k b f c) (hb : w'.heap[b]? = w.heap[b]?) : HoldsMap w' P k b f c := by
  obtain ⟨D, ⟨es, clock, h0, r⟩, r2⟩ := h
  exact ⟨D, ⟨es, clock, hb.trans h0, r⟩, r2⟩

theorem HoldsMap.alloc (h : HoldsMap w P k b f c) (o : Obj) : HoldsMap (w.alloc o) P k b f c := h.of_block (Below.heap_alloc _ _ _ h.lt)
theorem HoldsMap.drew (h : HoldsMap w P k b f c) : HoldsMap w.drew P k b f c := h

theorem HoldsMap.look (h : HoldsMap w P k b f c) {t e : TypeId} (hk : P.underlying k = some .string) (ht : P.underlying t = some (.map k e)) {z : Value} (hz : (zeroValue e).run P w = .ok z w) (s : ByteArray) (hs : s.size ≤ maxLen) :
    (Instr.lookup t (.map (some b)) (.string s) false).run P w = .ok ((f s.data.toList).getD z) w := by
  obtain ⟨D, ho, _, _, hr⟩ := h
  obtain ⟨v, ps, hrun, hv⟩ := ho.lookup (string_keyed hk) ht hz (zd := .held z) (zp := []) rfl (WideMaps.keyOf_string_mk hk hs)
  rw [hrun]
  simp only [hR, Option.some.injEq, Prod.mk.injEq] at hv
  have hr' := hr s.data.toList
  cases hf : f s.data.toList with
  | none =>
    have h0 := atKey_of_not_has (hr'.1 hf) (DataW.held z)
    rw [h0] at hv
    obtain ⟨hv, _⟩ := hv
    cases hv
    rfl
  | some x =>
    have h0 := (hr'.2 x hf).2 (.held z)
    rw [h0] at hv
    obtain ⟨hv, _⟩ := hv
    cases hv
    rfl

theorem HoldsMap.len (h : HoldsMap w P k b f c) {t e : TypeId} (ht : P.underlying t = some (.map k e)) (ty : TypeId) : (Builtin.len_ #[t] ty #[.map (some b)]).run P w = .ok (.int .i64 c) w := by
  obtain ⟨D, ho, hsz, _⟩ := h
  rw [ho.len ht ty, hsz]

theorem HoldsMap.store (h : HoldsMap w P k b f c) {t e : TypeId} (hk : P.underlying k = some .string) (ht : P.underlying t = some (.map k e)) (hc : c < maxLen) (s : ByteArray) (hs : s.size ≤ maxLen) (v : Value) :
    ∃ w', (Instr.mapUpdate t (.map (some b)) (.string s) v).run P w = .ok () w' ∧ HoldsMap w' P k b (upd f s.data.toList v) (more f s.data.toList c) ∧ w.grownBy w' (some b) ∧ w'.heap.size = w.heap.size := by
  obtain ⟨D, ho, hsz, htd, hr⟩ := h
  obtain ⟨w', hrun, ho', hg⟩ := ho.store (string_keyed hk) ht hc (WideMaps.keyOf_string_mk hk hs) (val := v) (d := .held v) (ps := []) rfl
  have hkey : WideAt.IsKeyLit (.string s.data.toList) := trivial
  have hsz' : Maps.size (D.put (.string s.data.toList) (.held v)) = more f s.data.toList c := by
    rw [size_put htd, hsz]
    cases hf : f s.data.toList with
    | none => rw [(hr _).1 hf, more_new hf]; rfl
    | some x => rw [((hr _).2 x hf).1, more_old hf]; rfl
  refine ⟨w', hrun, ⟨_, ?_, hsz', htd.put hkey _, ?_⟩, hg.grown, ?_⟩
  · rw [← hsz']; exact tight ho'
  · intro t'
    by_cases e : t' = s.data.toList
    · subst e
      rw [upd_same]
      exact ⟨fun h => (by cases h), fun x h => (by cases h; exact ⟨has_put_same htd.isMap hkey _, fun z => atKey_put_same htd.isMap hkey _ z⟩)⟩
    · have hne : Lit.string t' ≠ Lit.string s.data.toList := fun h => e (by cases h; rfl)
      rw [upd_other f v e]
      refine ⟨fun h => ?_, fun x h => ?_⟩
      · rw [has_put_other hne]; exact (hr t').1 h
      · rw [has_put_other hne]; exact ⟨((hr t').2 x h).1, fun z => (by rw [atKey_put_other hne]; exact ((hr t').2 x h).2 z)⟩
  · obtain ⟨_, _, _, _, _, rfl⟩ := hg
    simp [ChangeMaps.setBlock]
end

/-! ### at the operation, for the walk -/
section
variable {P : Program} (w : World) {ops : Array Oper} {rest : List Oper} {o : Oper} {a : Act} {Q : Exit → Act → World → Prop}

theorem wpList_look (hg : o.guard = none) (m x : Operand) (t : TypeId) (hop : o.op = Op.lookup t m x false) (k e : TypeId) (hk : P.underlying k = some .string) (ht : P.underlying t = some (.map k e)) {z : Value} (hz : (zeroValue e).run P w = .ok z w)
    (b : Nat) (f : List UInt8 → Option Value) (c : Nat) (hm : a.eval m = .map (some b)) (h : HoldsMap w P k b f c) (s : ByteArray) (hx : a.eval x = .string s) (hs : s.size ≤ maxLen)
    (hK : wpList P ops Q rest (a.put o.dst ((f s.data.toList).getD z)) w) : wpList P ops Q (o :: rest) a w := by
  refine wpList_plain hg fun K' hK' => ?_
  have hrun := h.look hk ht hz s hs
  unfold Oper.wp
  simp [execOp, hop, hm, hx, hrun, Result.andThen]
  exact hK' _ _ hK

theorem wpList_store (hg : o.guard = none) (m x v : Operand) (t : TypeId) (hop : o.op = Op.mapUpdate t m x v) (k e : TypeId) (hk : P.underlying k = some .string) (ht : P.underlying t = some (.map k e))
    (b : Nat) (f : List UInt8 → Option Value) (c : Nat) (hm : a.eval m = .map (some b)) (h : HoldsMap w P k b f c) (hc : c < maxLen) (s : ByteArray) (hx : a.eval x = .string s) (hs : s.size ≤ maxLen) (val : Value) (hv : a.eval v = val)
    (hK : ∀ w', HoldsMap w' P k b (upd f s.data.toList val) (more f s.data.toList c) → w.grownBy w' (some b) → w'.heap.size = w.heap.size → wpList P ops Q rest (a.put o.dst undef) w') : wpList P ops Q (o :: rest) a w := by
  refine wpList_plain hg fun K' hK' => ?_
  obtain ⟨w', hrun, r1, r2, r3⟩ := h.store hk ht hc s hs val
  unfold Oper.wp
  simp [execOp, hop, hm, hx, hv, hrun, Result.andThen]
  exact hK' _ _ (hK w' r1 r2 r3)

theorem wpList_mlen (hg : o.guard = none) (m : Operand) (t : TypeId) (hop : o.op = Op.call { callee := Callee.builtin Builtin.len, args := #[m], argTypes := #[t] }) (k e : TypeId) (ht : P.underlying t = some (.map k e))
    (b : Nat) (f : List UInt8 → Option Value) (c : Nat) (hm : a.eval m = .map (some b)) (h : HoldsMap w P k b f c)
    (hK : wpList P ops Q rest (a.put o.dst (.int .i64 c)) w) : wpList P ops Q (o :: rest) a w := by
  refine wpList_plain hg fun K' hK' => ?_
  unfold Oper.wp
  simp [execOp, hop, resolve, invoke, builtin, hm, h.len ht o.type, Result.andThen]
  exact hK' _ _ hK
end

/-! ### what has turned -/
/-- all blocks but those of S are as they were; nothing has gone -/
structure Turn (S : List Nat) (w w' : World) : Prop where
  os : w'.os = w.os
  tape : w'.tape = w.tape
  output : w'.output = w.output
  size : w.heap.size ≤ w'.heap.size
  block : ∀ k, k < w.heap.size → k ∉ S → w'.heap[k]? = w.heap[k]?

theorem Turn.refl (S : List Nat) (w : World) : Turn S w w := ⟨rfl, rfl, rfl, Nat.le_refl _, fun _ _ _ => rfl⟩
theorem Turn.trans {S : List Nat} {a b c : World} (h : Turn S a b) (k : Turn S b c) : Turn S a c :=
  ⟨k.os.trans h.os, k.tape.trans h.tape, k.output.trans h.output, Nat.le_trans h.size k.size, fun i hi hn => (k.block i (Nat.lt_of_lt_of_le hi h.size) hn).trans (h.block i hi hn)⟩
theorem Turn.mono {S S' : List Nat} {w w' : World} (h : Turn S w w') (hS : ∀ k, k ∈ S → k ∈ S') : Turn S' w w' := ⟨h.os, h.tape, h.output, h.size, fun k hk hn => h.block k hk (fun hm => hn (hS k hm))⟩
theorem Turn.drew {S : List Nat} {a w : World} (h : Turn S a w) : Turn S a w.drew := ⟨h.os, h.tape, h.output, h.size, h.block⟩
theorem Turn.alloc {S : List Nat} {a w : World} (h : Turn S a w) (o : Obj) : Turn S a (w.alloc o) :=
  h.trans ⟨rfl, rfl, rfl, by simp, fun k hk _ => Below.heap_alloc _ _ _ hk⟩
theorem Turn.setCell {S : List Nat} {a w : World} (h : Turn S a w) {p : Addr} (hp : p.block ∈ S) (u : Value) : Turn S a (w.setCell p u) :=
  h.trans ⟨rfl, rfl, rfl, by simp [World.setCell], fun k _ hn => Below.heap_setCell _ _ _ _ (fun e => hn (e ▸ hp))⟩
theorem Turn.grown {S : List Nat} {a w w' : World} {row : Option Nat} (h : Turn S a w) (hg : w.grownBy w' row) (hr : ∀ k, row = some k → k ∈ S) : Turn S a w' :=
  h.trans ⟨hg.os, hg.tape, hg.output, hg.size, fun k hk hn => hg.block k hk (fun e => hn (hr k e.symm))⟩
theorem Turn.cell {S : List Nat} {w w' : World} (h : Turn S w w') {p : Addr} (hp : p.block < w.heap.size) (hn : p.block ∉ S) : w'.cell? p = w.cell? p := World.cell?_of_block (w := w) (h.block p.block hp hn)
theorem Turn.frozen {S : List Nat} {w w' : World} (h : Turn S w w') {p : Addr} (hp : p.block < w.heap.size) (hn : p.block ∉ S) : w'.frozen? p = w.frozen? p := World.frozen?_of_block (w := w) (h.block p.block hp hn)
theorem Turn.map {S : List Nat} {w w' : World} (h : Turn S w w') {P : Program} {k : TypeId} {b c : Nat} {f : List UInt8 → Option Value} (hm : HoldsMap w P k b f c) (hn : b ∉ S) : HoldsMap w' P k b f c := hm.of_block (h.block b hm.lt hn)
/-- of old memory nothing has turned, if what turned is new -/
theorem Turn.below {S : List Nat} {B : Nat} {w w' : World} (h : Turn S w w') (hB : B ≤ w.heap.size) (hS : ∀ k, k ∈ S → B ≤ k) : Below B w w' :=
  ⟨h.os, h.tape, h.output, h.size, fun k hk => h.block k (by omega) (fun hm => by have := hS k hm; omega)⟩
theorem Below.turn {B : Nat} {w w' : World} (h : Below B w w') (hB : B = w.heap.size) (S : List Nat) : Turn S w w' := ⟨h.os, h.tape, h.output, h.size, fun k hk _ => h.block k (by omega)⟩

/-- a cell that reads something lies in a block that is there -/
theorem cell_lt {w : World} {p : Addr} {v : Value} (h : w.cell? p = some v) : p.block < w.heap.size := by
  by_cases hlt : p.block < w.heap.size
  · exact hlt
  · rw [World.cell?, Array.getElem?_eq_none (by omega)] at h
    cases h
/-- a map's block is no row of cells -/
theorem cell_ne_map {w : World} {p : Addr} {v : Value} (h : w.cell? p = some v) {P : Program} {k : TypeId} {b c : Nat} {f : List UInt8 → Option Value} (hm : HoldsMap w P k b f c) : p.block ≠ b := by
  rintro rfl
  obtain ⟨D, ⟨es, clock, hb, _⟩, _⟩ := hm
  simp [World.cell?, hb] at h
end Go.Proofs.Qxb6605750aFmt.anc
