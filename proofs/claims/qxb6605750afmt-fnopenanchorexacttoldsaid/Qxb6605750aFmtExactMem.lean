/-
  The row of cloned slices that FnOpenAnchorExact makes, and what the later loops of it read. Ours.
-/
import Derived.Test.Qxb6605750aFmtClone
import Derived.Test.Qxb6605750aFmtPlain
namespace Go.Proofs.Qxb6605750aFmt.anc
open Go.RowKit Go.Maps

theorem Bytes.setCell {w : World} {a : Option Addr} {l : Nat} (h : Bytes w a l) {p : Addr} (hp : ∀ b o, a = some ⟨b, o, none⟩ → b ≠ p.block) (v : Value) : Bytes (w.setCell p v) a l := by
  intro k hk
  obtain ⟨b, o, x, ha, hc⟩ := h k hk
  refine ⟨b, o, x, ha, (World.cell?_setCell_other w p ⟨b, o + k, none⟩ v (fun e => hp b o ha ?_)).trans hc⟩
  rw [e]

/-- block jb is the row of the first k clones, m places in all -/
structure JRow (w : World) (jb m k : Nat) (bl : Nat → Nat) (ca : Nat → Option Addr) (cc : Nat → Nat) : Prop where
  blk : ∃ C : Array Value, w.heap[jb]? = some (.cells C 25 (0, 0)) ∧ C.size = m ∧ ∀ q, q < k → C[q]? = some (.slice (ca q) (bl q) (cc q))
  byt : ∀ q, q < k → Bytes w (ca q) (bl q)
  new : ∀ q, q < k → ∀ b o, ca q = some ⟨b, o, none⟩ → jb < b ∧ b < w.heap.size

theorem JRow.made (w : World) (m : Nat) (bl : Nat → Nat) (ca : Nat → Option Addr) (cc : Nat → Nat) : JRow (w.alloc (.cells (madeCells #[.slice none 0 0] m) 25)) w.heap.size m 0 bl ca cc :=
  ⟨⟨_, heap_new _ _, size_madeCells _ _, fun q hq => (by omega)⟩, fun q hq => (by omega), fun q hq => (by omega)⟩

theorem JRow.lt {w : World} {jb m k : Nat} {bl : Nat → Nat} {ca : Nat → Option Addr} {cc : Nat → Nat} (h : JRow w jb m k bl ca cc) : jb < w.heap.size := by
  obtain ⟨C, hC, _⟩ := h.blk
  exact (Array.getElem?_eq_some_iff.1 hC).1

/-- the cell of the next place is there and may be written, also behind the clone -/
theorem JRow.next {w w1 : World} {jb m k : Nat} {bl : Nat → Nat} {ca : Nat → Option Addr} {cc : Nat → Nat} (h : JRow w jb m k bl ca cc) (hk : k < m) (hb : Below w.heap.size w w1) :
    (∃ v, w1.cell? ⟨jb, k, none⟩ = some v) ∧ w1.frozen? ⟨jb, k, none⟩ = false := by
  have hlt := h.lt
  obtain ⟨C, hC, hs, _⟩ := h.blk
  have h1 : w1.heap[jb]? = some (.cells C 25 (0, 0)) := (hb.block jb hlt).trans hC
  refine ⟨⟨C[k]'(by omega), ?_⟩, by simp [World.frozen?, h1]⟩
  simp [World.cell?, h1, hs, hk]

theorem JRow.step {w w1 : World} {jb m k : Nat} {bl : Nat → Nat} {ca : Nat → Option Addr} {cc : Nat → Nat} (h : JRow w jb m k bl ca cc) (hk : k < m) {a' : Option Addr} (c' : Nat) (hc : Cloned w w1 (bl k) a') :
    JRow (w1.setCell ⟨jb, k, none⟩ (.slice a' (bl k) c')) jb m (k + 1) bl (fun q => if q = k then a' else ca q) (fun q => if q = k then c' else cc q) := by
  have hlt := h.lt
  obtain ⟨C, hC, hs, hx⟩ := h.blk
  have h1 : w1.heap[jb]? = some (.cells C 25 (0, 0)) := (hc.bel.block jb hlt).trans hC
  refine ⟨⟨C.setIfInBounds k (.slice a' (bl k) c'), by simp [World.setCell, Array.getElem?_modify, h1], by simp [hs], fun q hq => ?_⟩, fun q hq => ?_, fun q hq b o he => ?_⟩
  · by_cases e : q = k
    · subst e
      rw [Array.getElem?_setIfInBounds_self_of_lt (by omega)]
      simp
    · rw [Array.getElem?_setIfInBounds_ne (fun h => e h.symm), hx q (by omega)]
      simp [e]
  · by_cases e : q = k
    · subst e
      simp only [if_pos]
      exact hc.by'.setCell (fun b o he => by have := (hc.new b o he).1; show b ≠ jb; omega) _
    · simp only [e, if_false]
      exact ((h.byt q (by omega)).below hc.bel (fun b o he => (h.new q (by omega) b o he).2)).setCell (fun b o he => by have := (h.new q (by omega) b o he).1; show b ≠ jb; omega) _
  · have hsz : (w1.setCell ⟨jb, k, none⟩ (.slice a' (bl k) c')).heap.size = w1.heap.size := by simp [World.setCell]
    have hle := hc.bel.size
    rw [hsz]
    by_cases e : q = k
    · subst e
      simp only [if_pos] at he
      have := hc.new b o he
      omega
    · simp only [e, if_false] at he
      have := h.new q (by omega) b o he
      omega

theorem JRow.cells {w : World} {jb m : Nat} {bl : Nat → Nat} {ca : Nat → Option Addr} {cc : Nat → Nat} (h : JRow w jb m m bl ca cc) : Cells w (some ⟨jb, 0, none⟩) m (fun q => .slice (ca q) (bl q) (cc q)) := by
  intro q hq
  obtain ⟨C, hC, hs, hx⟩ := h.blk
  exact ⟨jb, 0, rfl, by simp [World.cell?, hC, hx q hq]⟩

theorem info25 : (Tryf.prog.info? 25).map (fun i => (i.zero, i.size, i.bytes)) = some (some (.slice none 0 0), 1, 24) := by kernel_rfl
theorem zero4 (w : World) : (zeroValue 4).run Tryf.prog w = .ok (.bool false) w := by kernel_rfl

/-- the node's length, and the node, at each name's place -/
def jlen (m : Nat) (bl : Nat → Nat) (i : Nat) : Nat := if i < m then bl i else 0
def jval (m : Nat) (ca : Nat → Option Addr) (bl cc : Nat → Nat) (i : Nat) : Value := if i < m then .slice (ca i) (bl i) (cc i) else .slice none 0 0
theorem jlen_in {m : Nat} {bl : Nat → Nat} {i : Nat} (h : i < m) : jlen m bl i = bl i := by simp [jlen, h]
theorem jlen_out {m : Nat} {bl : Nat → Nat} {i : Nat} (h : ¬ i < m) : jlen m bl i = 0 := by simp [jlen, h]
theorem jval_in {m : Nat} {ca : Nat → Option Addr} {bl cc : Nat → Nat} {i : Nat} (h : i < m) : jval m ca bl cc i = .slice (ca i) (bl i) (cc i) := by simp [jval, h]
theorem jval_out {m : Nat} {ca : Nat → Option Addr} {bl cc : Nat → Nat} {i : Nat} (h : ¬ i < m) : jval m ca bl cc i = .slice none 0 0 := by simp [jval, h]

theorem jval_slice (m : Nat) (ca : Nat → Option Addr) (bl cc : Nat → Nat) (i : Nat) : jval m ca bl cc i = .slice (if i < m then ca i else none) (jlen m bl i) (if i < m then cc i else 0) := by
  unfold jval jlen
  split <;> rfl

theorem run_makeMap27 (x : Int) (w : World) : (Instr.makeMap 27 (some (.int .i64 x))).run Tryf.prog w = .ok (.map (some w.heap.size)) (w.alloc (.map #[] 0)) := by
  simp [Instr.makeMap, run_underlying Tryf.underlying27, asInt, asIntOf]

/-- the k-th name, as a key -/
def KY (nm : Nat → ByteArray) (i : Nat) : List UInt8 := (nm i).data.toList
/-- the names from the k-th on, with their nodes' lengths -/
def SK (nm : Nat → ByteArray) (m : Nat) (bl : Nat → Nat) (n k : Nat) : List (List UInt8 × Nat) := suf (KY nm) (jlen m bl) n k
theorem SK_cons (nm : Nat → ByteArray) (m : Nat) (bl : Nat → Nat) {n k : Nat} (h : k < n) : SK nm m bl n k = ((nm k).data.toList, jlen m bl k) :: SK nm m bl n (k + 1) := suf_cons _ _ h
/-- a name that comes again -/
theorem SK_old (nm : Nat → ByteArray) (m : Nat) (bl : Nat → Nat) {n k : Nat} (h : k < n) (hs : seenK (SK nm m bl n (k + 1)) (nm k).data.toList = true) (s : List UInt8) :
    sumK (SK nm m bl n k) = sumK (SK nm m bl n (k + 1)) ∧ cntK (SK nm m bl n k) = cntK (SK nm m bl n (k + 1)) ∧ seenK (SK nm m bl n k) s = seenK (SK nm m bl n (k + 1)) s ∧
    oldK s (SK nm m bl n k) = oldK s (SK nm m bl n (k + 1)) ∧ seenF (SK nm m bl n k) = seenF (SK nm m bl n (k + 1)) := by
  rw [SK_cons nm m bl h]
  refine ⟨by simp [sumK, hs], by simp [cntK, hs], ?_, by simp [oldK, hs], seenF_old hs⟩
  rw [seenK_cons]
  by_cases e : (nm k).data.toList = s
  · subst e; rw [hs]; simp
  · have : ((nm k).data.toList == s) = false := by simpa using e
    simp only [this, Bool.false_or]
/-- a name at its last place -/
theorem SK_new (nm : Nat → ByteArray) (m : Nat) (bl : Nat → Nat) {n k : Nat} (h : k < n) (hs : seenK (SK nm m bl n (k + 1)) (nm k).data.toList = false) (s : List UInt8) :
    sumK (SK nm m bl n k) = sumK (SK nm m bl n (k + 1)) + ((nm k).size + jlen m bl k) ∧ cntK (SK nm m bl n k) = cntK (SK nm m bl n (k + 1)) + 1 ∧ seenK (SK nm m bl n k) s = ((nm k).data.toList == s || seenK (SK nm m bl n (k + 1)) s) ∧
    oldK s (SK nm m bl n k) = (if (nm k).data.toList = s then jlen m bl k else oldK s (SK nm m bl n (k + 1))) ∧ upd (seenF (SK nm m bl n (k + 1))) (nm k).data.toList (.bool true) = seenF (SK nm m bl n k) ∧
    more (seenF (SK nm m bl n (k + 1))) (nm k).data.toList (cntK (SK nm m bl n (k + 1))) = cntK (SK nm m bl n k) := by
  rw [SK_cons nm m bl h]
  exact ⟨by simp [sumK, hs], by simp [cntK, hs], seenK_cons _ _ _, by simp [oldK, hs], seenF_new ((nm k).data.toList, jlen m bl k) _, seenF_more (x := ((nm k).data.toList, jlen m bl k)) hs⟩
theorem SK_end (nm : Nat → ByteArray) (m : Nat) (bl : Nat → Nat) (n : Nat) : SK nm m bl n n = [] := suf_end _ _ _

theorem SK_sum (nm : Nat → ByteArray) (m : Nat) (bl : Nat → Nat) (n : Nat) (h1 : ∀ i, i < n → (nm i).size ≤ 1048576) (h2 : ∀ i, i < m → bl i ≤ 1048576) (hn : n ≤ 1048576) (k : Nat) : sumK (SK nm m bl n k) ≤ 2199023255552 := by
  refine sum_bound (fun i hi => ?_) hn k
  have a := h1 i hi
  have b : jlen m bl i ≤ 1048576 := by
    by_cases e : i < m
    · rw [jlen_in e]; exact h2 i e
    · rw [jlen_out e]; omega
  have c : (KY nm i).length = (nm i).size := by simp [KY]
  rw [c]
  omega
theorem SK_cnt (nm : Nat → ByteArray) (m : Nat) (bl : Nat → Nat) (n k : Nat) : cntK (SK nm m bl n k) ≤ n := cnt_bound _ _ _ _
theorem SK_oldb (nm : Nat → ByteArray) (m : Nat) (bl : Nat → Nat) (n : Nat) (s : List UInt8) (h2 : ∀ i, i < m → bl i ≤ 1048576) (k : Nat) : oldK s (SK nm m bl n k) ≤ 1048576 := by
  refine old_bound s 1048576 _ (fun x hx => ?_)
  simp only [SK, suf, List.mem_map] at hx
  obtain ⟨i, _, rfl⟩ := hx
  show jlen m bl i ≤ 1048576
  by_cases e : i < m
  · rw [jlen_in e]; exact h2 i e
  · rw [jlen_out e]; omega

/-- a cell of a row of ours, behind later work and a store into a later map -/
theorem Cells.later {w w1 w2 : World} {b n B : Nat} {g : Nat → Value} (h : Cells w (some ⟨b, 0, none⟩) n g) (hb : Below w.heap.size w w1) (hg : w1.grownBy w2 (some B)) (hB : w.heap.size ≤ B) {k : Nat} (hk : k < n) : w2.cell? ⟨b, k, none⟩ = some (g k) := by
  obtain ⟨b', o', e, hc⟩ := h k hk
  cases e
  rw [Nat.zero_add] at hc
  have hlt := cell_lt hc
  have h1 := (hb.cell (p := ⟨b, k, none⟩) hlt).trans hc
  have hlt' : b < w.heap.size := hlt
  exact (World.cell?_of_block (w := w1) (hg.block b (Nat.lt_of_lt_of_le hlt' hb.size) (fun e => by cases e; omega))).trans h1
theorem Cells.here {w w1 : World} {b n : Nat} {g : Nat → Value} (h : Cells w (some ⟨b, 0, none⟩) n g) (hb : Below w.heap.size w w1) {k : Nat} (hk : k < n) : w1.cell? ⟨b, k, none⟩ = some (g k) := by
  obtain ⟨b', o', e, hc⟩ := h k hk
  cases e
  rw [Nat.zero_add] at hc
  exact (hb.cell (p := ⟨b, k, none⟩) (cell_lt hc)).trans hc
theorem Comp.below {w w' : World} {cb mb : Nat} {f : List UInt8 → Option Value} {c : Nat} {kept : Int} (h : Comp w cb mb f c kept) (hb : Below w.heap.size w w') : Comp w' cb mb f c kept :=
  h.turn (S := []) ⟨hb.os, hb.tape, hb.output, hb.size, fun k hk _ => hb.block k hk⟩ (by simp) (by simp)
theorem Anch.below {w w' : World} {ab : Nat} {op pa : Bool} {js : Value} (h : Anch w ab op pa js) (hb : Below w.heap.size w w') : Anch w' ab op pa js :=
  h.turn (S := []) ⟨hb.os, hb.tape, hb.output, hb.size, fun k hk _ => hb.block k hk⟩ (by simp)
theorem Below.drewN {B : Nat} {a w : World} (h : Below B a w) (q : Nat) : Below B a (w.drewN q) := ⟨h.os, h.tape, h.output, h.size, h.block⟩
/-- at a name's last place the puts have laid its own anchor -/
theorem last_at (nm : Nat → ByteArray) (m : Nat) (bl : Nat → Nat) (N n i : Nat) (hi : i < n) (hs : seenK (SK nm m bl n (i + 1)) (nm i).data.toList = false) : mapTo (KY nm) N n (nm i).data.toList = some (.pointer (some ⟨N + i, 0, none⟩)) :=
  mapTo_last (KY nm) N (nm i).data.toList n i hi rfl (fun k' h1 h2 => seenK_suf_no hs (by omega) h2)
theorem Turn.undrew {S : List Nat} {w w' : World} (h : Turn S w.drew w') : Turn S w w' := ⟨h.os, h.tape, h.output, h.size, h.block⟩
/-- a put: the anchors so far and the new one stand -/
theorem step5 {wr w6 w7 : World} {M N k : Nat} {J : Nat → Value} (hA : ∀ q, q < k → Anch wr (N + q) false false (J q)) (ha : Anch w6 (N + k) false false (J k)) (ht6 : Turn [] wr w6) (ht7 : Turn [M] w6 w7) (hM : M < N) :
    ∀ q, q < k + 1 → Anch w7 (N + q) false false (J q) := by
  intro q hq
  by_cases e : q = k
  · subst e
    exact ha.turn ht7 (by simp; omega)
  · exact ((hA q (by omega)).turn ht6 (by simp)).turn ht7 (by simp; omega)
theorem below5 {wJ wr w6 w7 : World} {M : Nat} (hX : Below wJ.heap.size wJ wr) (ht6 : Turn [] wr w6) (ht7 : Turn [M] w6 w7) (hM : wJ.heap.size ≤ M) : Below wJ.heap.size wJ w7 :=
  (hX.trans (ht6.below (B := wJ.heap.size) hX.size (by simp))).trans (ht7.below (B := wJ.heap.size) (Nat.le_trans hX.size ht6.size) (by simpa using hM))
theorem cntTo_le (key : Nat → List UInt8) (N : Nat) : ∀ k, cntTo key N k ≤ k
  | 0 => Nat.le_refl _
  | k + 1 => by
    have h1 := cntTo_le key N k
    have h2 := more_le (mapTo key N k) (key k) (cntTo key N k)
    rw [cntTo]
    omega
theorem key_eq (s t : ByteArray) : (s.data.toList == t.data.toList) = (s.toList == t.toList) := by rw [ByteArray.toList_eq, ByteArray.toList_eq]
end Go.Proofs.Qxb6605750aFmt.anc
