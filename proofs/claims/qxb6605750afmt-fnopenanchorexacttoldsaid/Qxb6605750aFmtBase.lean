/-
  The composer and its anchors in memory, and the contracts of the small functions on them. Ours.
-/
import Derived.Test.Qxb6605750aFmtCards
import Derived.Test.Qxb6605750aFmtMapView
import Derived.RegionTactic
import Derived.ChangeAlike
import Derived.LaidEql
namespace Go.Proofs.Qxb6605750aFmt.anc
open Go.RowKit Go.Maps

theorem zero31 (w : World) : (zeroValue 31).run Tryf.prog w = .ok (.pointer none) w := by kernel_rfl

/-- THE COMPOSER: its cells 29 (the anchors' map) and 30 (the bytes kept), and the map -/
structure Comp (w : World) (cb mb : Nat) (f : List UInt8 → Option Value) (c : Nat) (kept : Int) : Prop where
  m : w.cell? ⟨cb, 29, none⟩ = some (.map (some mb))
  k : w.cell? ⟨cb, 30, none⟩ = some (.int .i64 kept)
  fz : w.frozen? ⟨cb, 30, none⟩ = false
  o : HoldsMap w Tryf.prog 9 mb f c

/-- AN ANCHOR: its cells 0 (open), 1 (in part), 2 (json) -/
structure Anch (w : World) (ab : Nat) (op pa : Bool) (js : Value) : Prop where
  op : w.cell? ⟨ab, 0, none⟩ = some (.bool op)
  pa : w.cell? ⟨ab, 1, none⟩ = some (.bool pa)
  js : w.cell? ⟨ab, 2, none⟩ = some js
  sh : ∃ C : Array Value, w.heap[ab]? = some (.cells C 74 (0, 0))

theorem Anch.lt {w : World} {ab : Nat} {op pa : Bool} {js : Value} (h : Anch w ab op pa js) : ab < w.heap.size := cell_lt h.op
theorem Anch.turn {S : List Nat} {w w' : World} {ab : Nat} {op pa : Bool} {js : Value} (h : Anch w ab op pa js) (t : Turn S w w') (hn : ab ∉ S) : Anch w' ab op pa js :=
  ⟨(t.cell (p := ⟨ab, 0, none⟩) h.lt hn).trans h.op, (t.cell (p := ⟨ab, 1, none⟩) h.lt hn).trans h.pa, (t.cell (p := ⟨ab, 2, none⟩) h.lt hn).trans h.js, (by obtain ⟨C, hC⟩ := h.sh; exact ⟨C, (t.block ab h.lt hn).trans hC⟩)⟩
theorem Comp.lt {w : World} {cb mb : Nat} {f : List UInt8 → Option Value} {c : Nat} {kept : Int} (h : Comp w cb mb f c kept) : cb < w.heap.size := cell_lt h.m
theorem Comp.ne {w : World} {cb mb : Nat} {f : List UInt8 → Option Value} {c : Nat} {kept : Int} (h : Comp w cb mb f c kept) : cb ≠ mb := cell_ne_map h.m h.o
theorem Comp.turn {S : List Nat} {w w' : World} {cb mb : Nat} {f : List UInt8 → Option Value} {c : Nat} {kept : Int} (h : Comp w cb mb f c kept) (t : Turn S w w') (hc : cb ∉ S) (hm : mb ∉ S) : Comp w' cb mb f c kept :=
  ⟨(t.cell (p := ⟨cb, 29, none⟩) h.lt hc).trans h.m, (t.cell (p := ⟨cb, 30, none⟩) h.lt hc).trans h.k, (t.frozen (p := ⟨cb, 30, none⟩) h.lt hc).trans h.fz, t.map h.o hm⟩

theorem Comp.stored {w w1 : World} {cb mb : Nat} {f g : List UInt8 → Option Value} {c d : Nat} {kept : Int} (h : Comp w cb mb f c kept) (ho : HoldsMap w1 Tryf.prog 9 mb g d) (hg : w.grownBy w1 (some mb)) : Comp w1 cb mb g d kept := by
  have t := (Turn.refl [mb] w).grown hg (by simp)
  have hn : cb ∉ [mb] := by simpa using h.ne
  exact ⟨(t.cell (p := ⟨cb, 29, none⟩) h.lt hn).trans h.m, (t.cell (p := ⟨cb, 30, none⟩) h.lt hn).trans h.k, (t.frozen (p := ⟨cb, 30, none⟩) h.lt hn).trans h.fz, ho⟩

theorem Comp.keeps {w : World} {cb mb : Nat} {f : List UInt8 → Option Value} {c : Nat} {kept : Int} (h : Comp w cb mb f c kept) (k' : Int) : Comp (w.setCell ⟨cb, 30, none⟩ (.int .i64 k')) cb mb f c k' := by
  have h1 := h.m
  have h2 := h.k
  have h3 := h.fz
  refine ⟨?_, ?_, ?_, h.o.of_block (Below.heap_setCell _ _ _ _ h.ne.symm)⟩
  · exact (World.cell?_setCell_other w _ _ _ (by simp)).trans h1
  · exact World.cell?_setCell_same w _ _ h2
  · rw [World.frozen?_setCell]; exact h3

theorem Comp.alloc {w : World} {cb mb : Nat} {f : List UInt8 → Option Value} {c : Nat} {kept : Int} (h : Comp w cb mb f c kept) (o : Obj) : Comp (w.alloc o) cb mb f c kept :=
  h.turn (S := []) ((Turn.refl [] w).alloc o) (by simp) (by simp)

theorem Comp.drew {w : World} {cb mb : Nat} {f : List UInt8 → Option Value} {c : Nat} {kept : Int} (h : Comp w cb mb f c kept) : Comp w.drew cb mb f c kept := ⟨h.m, h.k, h.fz, h.o⟩

theorem heap_new (w : World) (o : Obj) : (w.alloc o).heap[w.heap.size]? = some o := by
  show (w.heap.push o)[w.heap.size]? = _
  simp

theorem size74 : (Tryf.prog.info? 74).map (fun j => j.size) = some 17 := by kernel_rfl
theorem equalIn_same (d : Nat) (a : Addr) (w : World) : (Op.equalIn (d + 1) 31 (.pointer (some a)) (.pointer (some a))).run Tryf.prog w = .ok true w := by
  obtain ⟨j, hj, hsz⟩ := Option.map_eq_some_iff.1 size74
  simp [Op.equalIn, run_underlying Tryf.underlying31, sizeOf, typeInfo, hj, run_sameAddr_same]
theorem equalIn_other (d : Nat) {w : World} {x y : Nat} {op pa op' pa' : Bool} {js js' : Value} (hx : Anch w x op pa js) (hy : Anch w y op' pa' js') (hne : x ≠ y) :
    (Op.equalIn (d + 1) 31 (.pointer (some ⟨x, 0, none⟩)) (.pointer (some ⟨y, 0, none⟩))).run Tryf.prog w = .ok false w := by
  obtain ⟨j, hj, hsz⟩ := Option.map_eq_some_iff.1 size74
  obtain ⟨C, hC⟩ := hx.sh
  obtain ⟨C', hC'⟩ := hy.sh
  have hs := run_sameAddr_other (P := Tryf.prog) w (a := ⟨x, 0, none⟩) (b := ⟨y, 0, none⟩) (fun e => hne (by cases e; rfl)) hC hC'
  simp [Op.equalIn, run_underlying Tryf.underlying31, sizeOf, typeInfo, hj, hsz, hs]
theorem ptr_eql_same (a : Addr) (w : World) : (binOp .eql 31 (.pointer (some a)) (.pointer (some a))).run Tryf.prog w = .ok (.bool true) w := by
  simp only [binOp]
  simp [Op.equal, Op.maxDepth, equalIn_same 9999]
theorem ptr_neq_same (a : Addr) (w : World) : (binOp .neq 31 (.pointer (some a)) (.pointer (some a))).run Tryf.prog w = .ok (.bool false) w := by
  simp only [binOp]
  simp [Op.equal, Op.maxDepth, equalIn_same 9999]
theorem ptr_eql_other {w : World} {x y : Nat} {op pa op' pa' : Bool} {js js' : Value} (hx : Anch w x op pa js) (hy : Anch w y op' pa' js') (hne : x ≠ y) :
    (binOp .eql 31 (.pointer (some ⟨x, 0, none⟩)) (.pointer (some ⟨y, 0, none⟩))).run Tryf.prog w = .ok (.bool false) w := by
  simp only [binOp]
  simp [Op.equal, Op.maxDepth, equalIn_other 9999 hx hy hne]

/-- a new row of cells behind which a map was written: an anchor -/
theorem anch_new {w1 w2 : World} {C : Array Value} {mb : Nat} {op pa : Bool} {js : Value} (hg : (w1.alloc (.cells C 74)).grownBy w2 (some mb)) (hm : mb < w1.heap.size) (e0 : C[0]? = some (.bool op)) (e1 : C[1]? = some (.bool pa)) (e2 : C[2]? = some js) :
    Anch w2 w1.heap.size op pa js := by
  have t : Turn [mb] (w1.alloc (.cells C 74)) w2 := (Turn.refl [mb] _).grown hg (by simp)
  have a : Anch (w1.alloc (.cells C 74)) w1.heap.size op pa js := ⟨by simpa using e0, by simpa using e1, by simpa using e2, ⟨C, heap_new _ _⟩⟩
  exact a.turn t (by simp; omega)

set_option maxHeartbeats 400000 in
theorem newComposer_any (kept : Int) (w : World) :
    Calls Tryf.prog 7 #[.int .i64 kept] w fun e w' => e = .returned (.pointer (some ⟨w.heap.size + 1, 0, none⟩)) ∧ Comp w' (w.heap.size + 1) w.heap.size (fun _ => none) 0 kept ∧ Turn [] w w' ∧ w'.heap.size = w.heap.size + 2 := by
  have hmm := @run_makeMap Tryf.prog
  go_enter Tryf.func7, Tryf.ntmps7
  go_wp2
  go_ret
  exact ⟨rfl, ⟨by simp, by simp, World.frozen?_alloc_at _ _ _ _ (by simp), (HoldsMap.made w Tryf.prog 9).of_block (Below.heap_alloc _ _ _ (by simp))⟩, ((Turn.refl [] w).alloc _).alloc _, by simp⟩

set_option maxHeartbeats 400000 in
theorem newAnchor_any (a : Option Addr) (l c : Nat) (w : World) :
    Calls Tryf.prog 9 #[.slice a l c] w fun e w' => e = .returned (.pointer (some ⟨w.heap.size, 0, none⟩)) ∧ Anch w' w.heap.size false false (.slice a l c) ∧ Turn [] w w' ∧ w'.heap.size = w.heap.size + 1 := by
  go_enter Tryf.func9, Tryf.ntmps9
  go_wp2
  go_ret
  exact ⟨rfl, ⟨by simp, by simp, by simp, ⟨_, heap_new _ _⟩⟩, (Turn.refl [] w).alloc _, by simp⟩

section
variable {w : World} {cb mb : Nat} {f : List UInt8 → Option Value} {c : Nat} {kept : Int}

set_option maxHeartbeats 400000 in
theorem kept_any (h : Comp w cb mb f c kept) :
    Calls Tryf.prog 12 #[.pointer (some ⟨cb, 0, none⟩)] w fun e w' => e = .returned (.int .i64 kept) ∧ w' = w := by
  have h1 := h.k
  clear h
  go_enter Tryf.func12, Tryf.ntmps12
  go_wp2
  go_ret
  exact ⟨rfl, rfl⟩

set_option maxHeartbeats 400000 in
theorem count_any (h : Comp w cb mb f c kept) :
    Calls Tryf.prog 13 #[.pointer (some ⟨cb, 0, none⟩)] w fun e w' => e = .returned (.int .i64 c) ∧ w' = w := by
  have h1 := h.m
  have ho := h.o
  clear h
  go_enter Tryf.func13, Tryf.ntmps13
  go_wp2_with (at_len; refine wpList_mlen _ rfl _ 43 rfl 9 31 Tryf.underlying43 mb f c rfl ho ?_)
  go_ret
  exact ⟨rfl, rfl⟩

set_option maxHeartbeats 400000 in
theorem anchorOf_any (h : Comp w cb mb f c kept) (s : ByteArray) (hs : s.size ≤ maxLen) :
    Calls Tryf.prog 10 #[.pointer (some ⟨cb, 0, none⟩), .string s] w fun e w' => e = .returned ((f s.data.toList).getD (.pointer none)) ∧ w' = w := by
  have h1 := h.m
  have ho := h.o
  clear h
  go_enter Tryf.func10, Tryf.ntmps10
  go_wp2_with (at_lookup; refine wpList_look _ rfl _ _ 43 rfl 9 31 Tryf.underlying9 Tryf.underlying43 (zero31 _) mb f c rfl ho s rfl hs ?_)
  go_ret
  exact ⟨rfl, rfl⟩

set_option maxHeartbeats 400000 in
theorem putAnchor_any (h : Comp w cb mb f c kept) (hc : c < maxLen) (s : ByteArray) (hs : s.size ≤ maxLen) (a : Option Addr) :
    Calls Tryf.prog 8 #[.pointer (some ⟨cb, 0, none⟩), .string s, .pointer a] w fun e w' => e = .returned (.tuple #[]) ∧ Comp w' cb mb (upd f s.data.toList (.pointer a)) (more f s.data.toList c) kept ∧ Turn [mb] w w' ∧ w'.heap.size = w.heap.size := by
  have h1 := h.m
  have ho := h.o
  have H : Hid (Comp w cb mb f c kept) := h
  clear h
  go_enter Tryf.func8, Tryf.ntmps8
  go_wp2_with (at_mapUpdate; refine wpList_store _ rfl _ _ _ 43 rfl 9 31 Tryf.underlying9 Tryf.underlying43 mb f c rfl ho hc s rfl hs (.pointer a) rfl ?_; intro w1 ho1 hg1 hz1)
  go_end0
  exact ⟨rfl, H.out.stored ho1 hg1, (Turn.refl [mb] w).grown hg1 (by simp), hz1⟩
end

section
variable {w : World} {ab : Nat} {op pa : Bool} {a : Option Addr} {l c : Nat}
set_option maxHeartbeats 400000 in
theorem open_any (h : Anch w ab op pa (.slice a l c)) :
    Calls Tryf.prog 14 #[.pointer (some ⟨ab, 0, none⟩)] w fun e w' => e = .returned (.bool op) ∧ w' = w := by
  have h1 := h.op
  clear h
  go_enter Tryf.func14, Tryf.ntmps14
  go_wp2
  go_ret
  exact ⟨rfl, rfl⟩
set_option maxHeartbeats 400000 in
theorem prt_any (h : Anch w ab op pa (.slice a l c)) :
    Calls Tryf.prog 15 #[.pointer (some ⟨ab, 0, none⟩)] w fun e w' => e = .returned (.bool pa) ∧ w' = w := by
  have h1 := h.pa
  clear h
  go_enter Tryf.func15, Tryf.ntmps15
  go_wp2
  go_ret
  exact ⟨rfl, rfl⟩
set_option maxHeartbeats 400000 in
theorem json_any (h : Anch w ab op pa (.slice a l c)) :
    Calls Tryf.prog 16 #[.pointer (some ⟨ab, 0, none⟩)] w fun e w' => e = .returned (.slice a l c) ∧ w' = w := by
  have h1 := h.js
  clear h
  go_enter Tryf.func16, Tryf.ntmps16
  go_wp2
  go_ret
  exact ⟨rfl, rfl⟩
end

section
variable {w : World} {cb mb : Nat} {f : List UInt8 → Option Value} {c : Nat} {kept : Int}

set_option maxHeartbeats 400000 in
theorem keep_yes (h : Comp w cb mb f c kept) (n line : Int) (h0 : 0 ≤ kept + n) (h1 : kept + n ≤ 3145728) :
    Calls Tryf.prog 20 #[.pointer (some ⟨cb, 0, none⟩), .int .i64 n, .int .i64 line] w fun e w' => e = .returned .nilIface ∧ Comp w' cb mb f c (kept + n) ∧ Turn [cb] w w' ∧ w'.heap.size = w.heap.size := by
  have c1 := h.k
  have c2 := h.fz
  have H : Hid (Comp w cb mb f c kept) := h
  clear h
  go_enter Tryf.func20, Tryf.ntmps20
  go_wp2
  go_ret
  exact ⟨rfl, H.out.keeps _, (Turn.refl [cb] w).setCell (by simp) _, by simp [World.setCell]⟩

set_option maxHeartbeats 400000 in
theorem openAnchor_new (h : Comp w cb mb f c kept) (hc : c < maxLen) (s : ByteArray) (hs : s.size ≤ maxLen) (line : Int) (hf : f s.data.toList = none) (h0 : 0 ≤ kept) (h1 : kept + s.size ≤ 3145728) :
    Calls Tryf.prog 19 #[.pointer (some ⟨cb, 0, none⟩), .string s, .int .i64 line] w fun e w' =>
      e = .returned (.tuple #[.pointer (some ⟨w.heap.size, 0, none⟩), .nilIface]) ∧ Comp w' cb mb (upd f s.data.toList (.pointer (some ⟨w.heap.size, 0, none⟩))) (c + 1) (kept + s.size) ∧
      Anch w' w.heap.size true false (.slice none 0 0) ∧ Turn [cb, mb] w w' ∧ w'.heap.size = w.heap.size + 1 := by
  have c1 := h.m
  have ho := h.o
  have HN : Hid (cb ≠ mb) := h.ne
  have H : Hid (Comp w cb mb f c kept) := h
  have HF : Hid (f s.data.toList = none) := hf
  have HG : Hid (w.heap.size = w.heap.size) := rfl
  clear h
  go_enter Tryf.func19, Tryf.ntmps19
  go_wp2_with (first | (at_lookup; refine wpList_look _ rfl _ _ 43 rfl 9 31 Tryf.underlying9 Tryf.underlying43 (zero31 _) mb f c rfl ho s rfl hs ?_; rw [hf]))
  refine (keep_yes H.out _ line (by omega) h1).mono ?_
  rintro e w1 ⟨rfl, hc1, ht1, hz1⟩
  have d1 := hc1.m
  have ho1 := hc1.o
  have hlt1 := hc1.lt
  have HC : Hid (Comp w1 cb mb f c (kept + s.size)) := hc1
  have HT : Hid (Turn [cb] w w1) := ht1
  have hlt := H.out.lt
  clear hc1 ht1 ho c1 hlt1
  go_wp2_with (first | (at_mapUpdate; refine wpList_store _ rfl _ _ _ 43 rfl 9 31 Tryf.underlying9 Tryf.underlying43 mb f c rfl (ho1.alloc _) hc s rfl hs (.pointer (some ⟨w.heap.size, 0, none⟩)) rfl ?_; intro w2 ho2 hg2 hz2))
  go_ret2
  have hm1 := ho1.lt
  refine ⟨rfl, ?_, ?_, ?_, ?_⟩
  · rw [more_new HF.out] at ho2
    exact (HC.out.alloc _).stored ho2 hg2
  · have a := anch_new hg2 hm1 (op := true) (pa := false) (js := .slice none 0 0) rfl rfl rfl
    rw [hz1] at a
    exact a
  · exact ((HT.out.mono (by simp)).alloc _).grown hg2 (by simp)
  · rw [hz2]; simp [hz1]

set_option maxHeartbeats 400000 in
theorem openAnchor_old (h : Comp w cb mb f c kept) (hc : c < maxLen) (s : ByteArray) (hs : s.size ≤ maxLen) (line : Int) {ab : Nat} {op pa : Bool} {ja : Option Addr} {jl jc : Nat}
    (hf : f s.data.toList = some (.pointer (some ⟨ab, 0, none⟩))) (ha : Anch w ab op pa (.slice ja jl jc)) (h0 : (s.size : Int) + jl ≤ kept) (h1 : kept ≤ 3145728) :
    Calls Tryf.prog 19 #[.pointer (some ⟨cb, 0, none⟩), .string s, .int .i64 line] w fun e w' =>
      e = .returned (.tuple #[.pointer (some ⟨w.heap.size, 0, none⟩), .nilIface]) ∧ Comp w' cb mb (upd f s.data.toList (.pointer (some ⟨w.heap.size, 0, none⟩))) c (kept - jl) ∧
      Anch w' w.heap.size true false (.slice none 0 0) ∧ Turn [cb, mb] w w' ∧ w'.heap.size = w.heap.size + 1 := by
  have c1 := h.m
  have c2 := h.k
  have c3 := h.fz
  have c4 := ha.js
  have ho := h.o
  have H : Hid (Comp w cb mb f c kept) := h
  have HF : Hid (f s.data.toList = some (.pointer (some ⟨ab, 0, none⟩))) := hf
  have hlt := h.lt
  unfold maxLen at hs
  clear h ha
  go_enter Tryf.func19, Tryf.ntmps19
  go_wp2_with (first | (at_lookup; refine wpList_look _ rfl _ _ 43 rfl 9 31 Tryf.underlying9 Tryf.underlying43 (zero31 _) mb f c rfl ho s rfl hs ?_; rw [hf]))
  go_region
  go_wp2_with fail
  refine (keep_yes (H.out.keeps (kept - (s.size + jl))).drew _ line (by omega) (by omega)).mono ?_
  rintro e w1 ⟨rfl, hc1, ht1, hz1⟩
  rw [show kept - ((s.size : Int) + jl) + s.size = kept - jl from by omega] at hc1
  have hz1' : w1.heap.size = w.heap.size := by rw [hz1]; simp [World.setCell]
  have d1 := hc1.m
  have ho1 := hc1.o
  have HC : Hid (Comp w1 cb mb f c (kept - jl)) := hc1
  have HT : Hid (Turn [cb] w w1) := (((Turn.refl [cb] w).setCell (by simp) _).drew).trans ht1
  clear hc1 ht1 ho c1 c2 c3 c4 hz1
  go_wp2_with (first | (at_mapUpdate; refine wpList_store _ rfl _ _ _ 43 rfl 9 31 Tryf.underlying9 Tryf.underlying43 mb f c rfl (ho1.alloc _) hc s rfl hs (.pointer (some ⟨w.heap.size, 0, none⟩)) rfl ?_; intro w2 ho2 hg2 hz2))
  go_ret2
  have hm1 := ho1.lt
  refine ⟨rfl, ?_, ?_, ?_, ?_⟩
  · rw [more_old HF.out] at ho2
    exact (HC.out.alloc _).stored ho2 hg2
  · have a := anch_new hg2 hm1 (op := true) (pa := false) (js := .slice none 0 0) rfl rfl rfl
    rw [hz1'] at a
    exact a
  · exact ((HT.out.mono (by simp)).alloc _).grown hg2 (by simp)
  · rw [hz2]; simp [hz1']
end
end Go.Proofs.Qxb6605750aFmt.anc
