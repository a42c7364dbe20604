/-
  Words on memory for the walks of this seat: a block that is known whole, and a step that turns only the blocks of a list. No condition.
-/
import Derived.Test.YtnpakacfdffbpaaDoorRows
import Derived.WalkKit
import Derived.Deep.AppendLies
import Derived.Laws.CopyOwn
namespace Go.Proofs.YtnpakacfdffbpaaDoor
open Go.RowKit

/-- Block b holds the cells cs of type t; none is frozen. -/
def Blk (w : World) (b : Nat) (cs : Array Value) (t : TypeId) : Prop := w.heap[b]? = some (.cells cs t (0, 0))

theorem Blk.lt {w : World} {b : Nat} {cs : Array Value} {t : TypeId} (h : Blk w b cs t) : b < w.heap.size := by
  rcases Nat.lt_or_ge b w.heap.size with h' | h'
  · exact h'
  · have := h; unfold Blk at this; rw [Array.getElem?_eq_none h'] at this; cases this

theorem Blk.cell {w : World} {b : Nat} {cs : Array Value} {t : TypeId} (h : Blk w b cs t) (i : Nat) : w.cell? ⟨b, i, none⟩ = cs[i]? :=
  cell_of_row w b i cs t (0, 0) h

theorem Blk.frozen {w : World} {b : Nat} {cs : Array Value} {t : TypeId} (h : Blk w b cs t) (i : Nat) : w.frozen? ⟨b, i, none⟩ = false := by
  have h' : w.heap[b]? = some (.cells cs t (0, 0)) := h
  simp [World.frozen?, h']

theorem Blk.alloc {w : World} {b : Nat} {cs : Array Value} {t : TypeId} (h : Blk w b cs t) (o : Obj) : Blk (w.alloc o) b cs t := by
  unfold Blk; rw [Below.heap_alloc _ _ _ h.lt]; exact h

theorem Blk.drew {w : World} {b : Nat} {cs : Array Value} {t : TypeId} (h : Blk w b cs t) : Blk w.drew b cs t := h

theorem Blk.new (w : World) (cs : Array Value) (t : TypeId) : Blk (w.alloc (.cells cs t)) w.heap.size cs t := by
  show (w.heap.push _)[w.heap.size]? = _
  simp

theorem Blk.set {w : World} {b : Nat} {cs : Array Value} {t : TypeId} (h : Blk w b cs t) (i : Nat) (v : Value) : Blk (w.setCell ⟨b, i, none⟩ v) b (cs.setIfInBounds i v) t := by
  have h' : w.heap[b]? = some (.cells cs t (0, 0)) := h
  show (w.setCell _ v).heap[b]? = _
  simp [World.setCell, Array.getElem?_modify, h']

theorem Blk.set_other {w : World} {b : Nat} {cs : Array Value} {t : TypeId} (h : Blk w b cs t) (a : Addr) (v : Value) (hne : b ≠ a.block) : Blk (w.setCell a v) b cs t := by
  unfold Blk; rw [Below.heap_setCell _ _ _ _ hne]; exact h

/-- Nothing but the blocks of S, of those that were there, has turned. -/
structure Step (S : List Nat) (w w' : World) : Prop where
  os : w'.os = w.os
  tape : w'.tape = w.tape
  output : w'.output = w.output
  size : w.heap.size ≤ w'.heap.size
  block : ∀ k, k < w.heap.size → k ∉ S → w'.heap[k]? = w.heap[k]?

theorem Step.refl (S : List Nat) (w : World) : Step S w w := ⟨rfl, rfl, rfl, Nat.le_refl _, fun _ _ _ => rfl⟩
theorem Step.trans {S : List Nat} {a b c : World} (h : Step S a b) (k : Step S b c) : Step S a c :=
  ⟨k.os.trans h.os, k.tape.trans h.tape, k.output.trans h.output, Nat.le_trans h.size k.size,
    fun i hi hs => (k.block i (Nat.lt_of_lt_of_le hi h.size) hs).trans (h.block i hi hs)⟩
theorem Step.mono {S T : List Nat} {a b : World} (h : Step S a b) (hs : ∀ k ∈ S, k ∈ T) : Step T a b :=
  ⟨h.os, h.tape, h.output, h.size, fun i hi hk => h.block i hi (fun hc => hk (hs _ hc))⟩
/-- What a step wrote beside old blocks lies in blocks that are new since a. -/
theorem Step.trans' {S T : List Nat} {a b c : World} (h : Step S a b) (k : Step T b c) (hT : ∀ j ∈ T, j ∈ S ∨ a.heap.size ≤ j) : Step S a c :=
  ⟨k.os.trans h.os, k.tape.trans h.tape, k.output.trans h.output, Nat.le_trans h.size k.size,
    fun i hi hs => (k.block i (Nat.lt_of_lt_of_le hi h.size) (fun hc => by rcases hT i hc with h1 | h1; exact hs h1; omega)).trans (h.block i hi hs)⟩
theorem Step.alloc {S : List Nat} {a w : World} (h : Step S a w) (o : Obj) : Step S a (w.alloc o) :=
  h.trans ⟨rfl, rfl, rfl, by simp, fun k hk _ => Below.heap_alloc _ _ _ hk⟩
theorem Step.drew {S : List Nat} {a w : World} (h : Step S a w) : Step S a w.drew := ⟨h.os, h.tape, h.output, h.size, h.block⟩
theorem Step.set {S : List Nat} {a w : World} (h : Step S a w) (p : Addr) (v : Value) (hp : p.block ∈ S ∨ a.heap.size ≤ p.block) : Step S a (w.setCell p v) :=
  ⟨h.os, h.tape, h.output, by simpa using h.size, fun k hk hs => by
    rw [Below.heap_setCell _ _ _ _ (by intro e; subst e; rcases hp with hp | hp; exact hs hp; omega)]; exact h.block k hk hs⟩
theorem Step.blk {S : List Nat} {w w' : World} (h : Step S w w') {b : Nat} {cs : Array Value} {t : TypeId} (hb : Blk w b cs t) (hs : b ∉ S) : Blk w' b cs t := by
  unfold Blk; rw [h.block b hb.lt hs]; exact hb
theorem Step.below {S : List Nat} {w w' : World} (h : Step S w w') {B : Nat} (hB : B ≤ w.heap.size) (hs : ∀ k ∈ S, B ≤ k) : Below B w w' :=
  ⟨h.os, h.tape, h.output, h.size, fun k hk => h.block k (by omega) (fun hc => by have := hs k hc; omega)⟩
theorem Step.of_below {S : List Nat} {w w' : World} (h : Below w.heap.size w w') : Step S w w' := ⟨h.os, h.tape, h.output, h.size, fun k hk _ => h.block k hk⟩
theorem Step.cell {S : List Nat} {w w' : World} (h : Step S w w') {p : Addr} {v : Value} (hp : w.cell? p = some v) (hs : p.block ∉ S) : w'.cell? p = some v :=
  (World.cell?_of_block (w := w) (h.block p.block (World.block_lt_of_cell? w p hp) hs)).trans hp
theorem Step.heap {S : List Nat} {w w' : World} (h : Step S w w') {k : Nat} {o : Obj} (hk : w.heap[k]? = some o) (hs : k ∉ S) : w'.heap[k]? = some o :=
  (h.block k (Array.getElem?_eq_some_iff.1 hk).1 hs).trans hk

theorem Blk.row {w : World} {b : Nat} {cs : Array Value} {t : TypeId} (h : Blk w b cs t) (cs' : Array Value) : Blk (w.setRow b cs') b cs' t := setRow_heap w b _ _ t _ h
theorem Blk.row_other {w : World} {b g : Nat} {cs : Array Value} {t : TypeId} (h : Blk w b cs t) (cs' : Array Value) (hne : b ≠ g) : Blk (w.setRow g cs') b cs t := by
  unfold Blk; rw [setRow_other w g b cs' hne]; exact h
theorem Step.row {S : List Nat} {a w : World} (h : Step S a w) (g : Nat) (cs : Array Value) (hg : g ∈ S ∨ a.heap.size ≤ g) : Step S a (w.setRow g cs) :=
  ⟨h.os, h.tape, h.output, by simpa [World.setRow] using h.size, fun k hk hs => by
    rw [setRow_other w g k cs (by intro e; subst e; rcases hg with hg | hg; exact hs hg; omega)]; exact h.block k hk hs⟩
theorem Blk.grown {w w' : World} {b : Nat} {cs : Array Value} {t : TypeId} (h : Blk w b cs t) (hg : w.grownBy w' none) : Blk w' b cs t := by
  unfold Blk; rw [hg.block b h.lt (by simp)]; exact h
theorem Step.grown {S : List Nat} {a w w' : World} (h : Step S a w) (hg : w.grownBy w' none) : Step S a w' :=
  h.trans ⟨hg.os, hg.tape, hg.output, hg.size, fun k hk _ => hg.block k hk (by simp)⟩
theorem Blk.at {w : World} {b : Nat} {cs : Array Value} {t : TypeId} (h : Blk w b cs t) {i : Nat} (hi : i < cs.size) : w.cell? ⟨b, i, none⟩ = some cs[i] := by
  rw [h.cell i]; simp [hi]

/-- Block b begins with the cells xs. -/
def Blk2 (w : World) (b : Nat) (xs : List Value) : Prop := ∃ (cs : Array Value) (t : TypeId), Blk w b cs t ∧ cs.toList.take xs.length = xs
theorem Blk2.cell2 {w : World} {b : Nat} {x y z : Value} (h : Blk2 w b [x, y, z]) : w.cell? ⟨b, 2, none⟩ = some z := by
  obtain ⟨cs, t, hb, he⟩ := h
  rw [hb.cell 2]
  have : (cs.toList.take 3)[2]? = some z := by
    have he' : cs.toList.take 3 = [x, y, z] := he
    rw [he']; rfl
  rw [List.getElem?_take] at this
  simpa using this
theorem own_row {w : World} {B g cap : Nat} {e : TypeId} {xs : List Value} (h : w.ownsRow B e 3 (.slice (some ⟨g, 0, none⟩) (0 + 1) cap) (0 + 1) ([] ++ xs)) : Blk2 w g xs ∧ B ≤ g := by
  obtain ⟨hl, h2⟩ := h
  rcases h2 with ⟨_, h0⟩ | ⟨g', cap', cur, hv, hbg, hh, _, _, _, ht⟩
  · omega
  · injection hv with h1 h2 h3
    injection h1 with h1
    injection h1 with h1
    subst h1
    refine ⟨⟨cur, e, hh, ?_⟩, hbg⟩
    simp only [List.nil_append] at ht hl
    rw [hl]; exact ht

theorem own_ge {w : World} {B g n cap : Nat} {e : TypeId} {size : Nat} {xs : List Value} (h : w.ownsRow B e size (.slice (some ⟨g, 0, none⟩) n cap) n xs) (hn : 0 < n) : B ≤ g := by
  obtain ⟨_, h2⟩ := h
  rcases h2 with ⟨_, h0⟩ | ⟨g', cap', cur, hv, hbg, _⟩
  · omega
  · injection hv with h1 h2 h3
    injection h1 with h1
    injection h1 with h1
    subst h1
    exact hbg
/-- What a row of the call's own holds. -/
theorem own_vals {w : World} {B g n cap : Nat} {e : TypeId} {xs : List Value} (h : w.ownsRow B e 1 (.slice (some ⟨g, 0, none⟩) n cap) n ([] ++ xs)) (hl : xs.length = n) :
    ∀ j v, xs[j]? = some v → w.cell? ⟨g, 0 + j, none⟩ = some v := fun j v hj => by
  have hjn : j < n := by rw [← hl]; exact (List.getElem?_eq_some_iff.1 hj).1
  obtain ⟨_, h2⟩ := h
  rcases h2 with ⟨_, h0⟩ | ⟨g', cap', cur, hv, hbg, hh, _, _, _, ht⟩
  · omega
  · injection hv with h1 h2 h3
    injection h1 with h1
    injection h1 with h1
    subst h1
    have hb : Blk w g cur e := hh
    rw [Nat.zero_add, hb.cell j]
    simp only [List.nil_append, Nat.mul_one] at ht
    have : (cur.toList.take n)[j]? = some v := by rw [ht]; exact hj
    rw [List.getElem?_take_of_lt hjn] at this
    simpa using this

theorem Tryd.info5 : ∃ i z, Tryd.prog.info? 5 = some i ∧ i.zero = some z ∧ i.size = 1 ∧ i.bytes = 1 ∧ z.cells.size = 1 := by
  have h : (Tryd.prog.info? 5).map (fun i => (i.size, i.bytes, i.zero.map (fun z => z.cells.size))) = some (1, 1, some 1) := by kernel_rfl
  obtain ⟨i, hi, he⟩ := Option.map_eq_some_iff.1 h
  simp only [Prod.mk.injEq] at he
  obtain ⟨h1, h2, h3⟩ := he
  obtain ⟨z, hz, hzs⟩ := Option.map_eq_some_iff.1 h3
  exact ⟨i, z, hi, hz, h1, h2, hzs⟩

/-- The values vs stand in cur from 24 on; cur has 120 cells. -/
def Con (cur : Array Value) (vs : List Value) : Prop := cur.size = 120 ∧ ∀ j v, vs[j]? = some v → cur[24 + j]? = some v
theorem splice_con (cur : Array Value) (vs : List Value) (h : cur.size = 120) (hl : vs.length ≤ 90) : Con (cur.toList.take 24 ++ (vs ++ cur.toList.drop (24 + vs.length))).toArray vs := by
  refine ⟨by simp [h]; omega, fun j v hj => ?_⟩
  have hlt : j < vs.length := (List.getElem?_eq_some_iff.1 hj).1
  have e : (cur.toList.take 24).length = 24 := by simp [h]
  rw [List.getElem?_toArray, List.getElem?_append_right (by omega), e, Nat.add_sub_cancel_left, List.getElem?_append_left hlt]
  exact hj
/-- A store elsewhere leaves the values. -/
theorem Con.set {cur : Array Value} {vs : List Value} (h : Con cur vs) (i : Nat) (x : Value) (hi : i < 24 ∨ 24 + vs.length ≤ i) : Con (cur.setIfInBounds i x) vs := by
  refine ⟨by simp [h.1], fun j v hj => ?_⟩
  have hlt : j < vs.length := (List.getElem?_eq_some_iff.1 hj).1
  rw [Array.getElem?_setIfInBounds_ne (by omega)]
  exact h.2 j v hj

/-- The cells of a message in memory: its type's two, the length, the number of the transaction (zeros), the attributes, the bytes, not strict. -/
def msgC (mt len : Int) (attrs raw : Value) : Array Value :=
  #[.int .u16 mt, .int .u8 0, .int .u32 len, .int .u8 0, .int .u8 0, .int .u8 0, .int .u8 0, .int .u8 0, .int .u8 0, .int .u8 0, .int .u8 0, .int .u8 0, .int .u8 0, .int .u8 0, .int .u8 0, attrs, raw, .bool false]

theorem msgC_set01 (mt len : Int) (a r : Value) : ((msgC 0 len a r).setIfInBounds 0 (.int .u16 mt)).setIfInBounds 1 (.int .u8 0) = msgC mt len a r := by simp [msgC]
theorem msgC_set2 (mt len len' : Int) (a r : Value) : (msgC mt len a r).setIfInBounds 2 (.int .u32 len') = msgC mt len' a r := by simp [msgC]
theorem msgC_set15 (mt len : Int) (a a' r : Value) : (msgC mt len a r).setIfInBounds 15 a' = msgC mt len a' r := by simp [msgC]
theorem msgC_set16 (mt len : Int) (a r r' : Value) : (msgC mt len a r).setIfInBounds 16 r' = msgC mt len a r' := by simp [msgC]

end Go.Proofs.YtnpakacfdffbpaaDoor
