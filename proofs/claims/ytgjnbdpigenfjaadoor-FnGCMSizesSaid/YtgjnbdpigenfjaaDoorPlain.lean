/-
  Plain words for the walks: numbers of 32 bits, bytes of a word, the block of a cipher as a row of cells. No function of the program is named here.
-/
import Derived.WalkKit
import Derived.OpenShut
import Derived.WalkSmall
import Derived.Deep.Draws
import Derived.Laws.BitsLemmas
namespace Go.Proofs.YtgjnbdpigenfjaaDoor
open Go Go.RowKit

def orU (a b : Int) : Int := bits BinOp.or IntKind.u32 a b
def xorU (a b : Int) : Int := bits BinOp.xor IntKind.u32 a b

theorem wrap_u32 {y : Int} (h : 0 ≤ y) (h' : y ≤ 4294967295) : IntKind.u32.wrap y = y := by
  simp [IntKind.wrap, IntKind.signed, IntKind.bits]; omega

theorem wrap_u8 {y : Int} (h : 0 ≤ y) (h' : y ≤ 255) : IntKind.u8.wrap y = y := by
  simp [IntKind.wrap, IntKind.signed, IntKind.bits]; omega

theorem and255 {y : Int} (h : 0 ≤ y) (h' : y ≤ 4294967295) : bits BinOp.and IntKind.u32 y 255 = y % 256 := by
  obtain ⟨n, rfl⟩ := Int.eq_ofNat_of_zero_le h
  have hb : (BitVec.ofInt 32 (n : Int) &&& BitVec.ofInt 32 255).toNat = n % 256 := by
    have e1 : (BitVec.ofInt 32 (n : Int)).toNat = n := by
      rw [BitVec.toNat_ofInt]; omega
    have e2 : (BitVec.ofInt 32 255).toNat = 255 := by decide
    rw [BitVec.toNat_and, e1, e2]
    exact Nat.and_two_pow_sub_one_eq_mod n 8
  show IntKind.u32.wrap ((BitVec.ofInt 32 (n : Int) &&& BitVec.ofInt 32 255).toNat : Int) = _
  rw [hb, wrap_u32 (by omega) (by omega)]
  omega

theorem bits_u32 (op : BinOp) (a b : Int) : 0 ≤ bits op .u32 a b ∧ bits op .u32 a b ≤ 4294967295 := bounds_u32 (wf_bits op .u32 a b)
theorem orU_bd (a b : Int) : 0 ≤ orU a b ∧ orU a b ≤ 4294967295 := bits_u32 _ _ _
theorem xorU_bd (a b : Int) : 0 ≤ xorU a b ∧ xorU a b ≤ 4294967295 := bits_u32 _ _ _

/-- The number of four bytes, the highest first. -/
def be4 (a b c d : Int) : Int := orU (orU (orU d (c * 256)) (b * 65536)) (a * 16777216)
theorem be4_bd (a b c d : Int) : 0 ≤ be4 a b c d ∧ be4 a b c d ≤ 4294967295 := orU_bd _ _

/-- Four bytes put together as the substitution of a word does. -/
def sub4 (a b c d : Int) : Int := orU (orU (orU (a * 16777216) (b * 65536)) (c * 256)) d
theorem sub4_bd (a b c d : Int) : 0 ≤ sub4 a b c d ∧ sub4 a b c d ≤ 4294967295 := orU_bd _ _

def rotU (x : Int) : Int := orU (x * 256 % 4294967296) (x / 16777216)
theorem rotU_bd (x : Int) : 0 ≤ rotU x ∧ rotU x ≤ 4294967295 := orU_bd _ _

/-- A table of bytes, of words: what an index reads. -/
structure Tab (k : IntKind) (hi : Int) (n : Nat) (t : Nat → Int) (g : Nat) (w : World) : Prop where
  cell : ∀ i, i < n → w.cell? ⟨g, i, none⟩ = some (.int k (t i))
  lo : ∀ i, i < n → 0 ≤ t i
  hi : ∀ i, i < n → t i ≤ hi

theorem Tab.at {k hi n t g w} (h : Tab k hi n t g w) (i : Nat) (hi' : i < n) : ∃ y, 0 ≤ y ∧ y ≤ hi ∧ w.cell? ⟨g, i, none⟩ = some (.int k y) :=
  ⟨t i, h.lo i hi', h.hi i hi', h.cell i hi'⟩

theorem cell_lt {w : World} {g i : Nat} {v : Value} (h : w.cell? ⟨g, i, none⟩ = some v) : g < w.heap.size := by
  rcases Nat.lt_or_ge g w.heap.size with hlt | hge
  · exact hlt
  · simp [World.cell?, Array.getElem?_eq_none hge] at h
theorem Tab.lt {k hi n t g w} (h : Tab k hi n t g w) (hn : 0 < n) : g < w.heap.size := cell_lt (h.cell 0 hn)

theorem Tab.below {k hi n t g w w'} (h : Tab k hi n t g w) {B : Nat} (hb : Below B w w') (hg : g < B) : Tab k hi n t g w' :=
  ⟨fun i hi => by rw [hb.cell (p := ⟨g, i, none⟩) hg]; exact h.cell i hi, h.lo, h.hi⟩

theorem Tab.drewN {k hi n t g w} (h : Tab k hi n t g w) (m : Nat) : Tab k hi n t g (w.drewN m) := ⟨h.cell, h.lo, h.hi⟩

/-- w' is w but for the block b. -/
structure But (b : Nat) (w w' : World) : Prop where
  os : w'.os = w.os
  tape : w'.tape = w.tape
  output : w'.output = w.output
  size : w'.heap.size = w.heap.size
  block : ∀ k, k ≠ b → w'.heap[k]? = w.heap[k]?

theorem But.refl (b : Nat) (w : World) : But b w w := ⟨rfl, rfl, rfl, rfl, fun _ _ => rfl⟩
theorem But.trans {b : Nat} {u v w : World} (h : But b u v) (k : But b v w) : But b u w :=
  ⟨k.os.trans h.os, k.tape.trans h.tape, k.output.trans h.output, k.size.trans h.size, fun i hi => (k.block i hi).trans (h.block i hi)⟩
theorem But.drewN {b : Nat} {w w' : World} (h : But b w w') (n : Nat) : But b w (w'.drewN n) := ⟨h.os, h.tape, h.output, h.size, h.block⟩
theorem But.setCell {b : Nat} {w w' : World} (h : But b w w') {a : Addr} (ha : a.block = b) (v : Value) : But b w (w'.setCell a v) :=
  h.trans ⟨rfl, rfl, rfl, by simp [World.setCell], fun k hk => Below.heap_setCell _ _ _ _ (by omega)⟩
theorem But.below {b B : Nat} {w w' : World} (h : But b w w') (hb : B ≤ b) : Below B w w' :=
  ⟨h.os, h.tape, h.output, by rw [h.size]; exact Nat.le_refl _, fun k hk => h.block k (by omega)⟩
theorem But.cell {b : Nat} {w w' : World} (h : But b w w') {p : Addr} (hp : p.block ≠ b) : w'.cell? p = w.cell? p := World.cell?_of_block (w := w) (h.block p.block hp)
theorem But.frozen {b : Nat} {w w' : World} (h : But b w w') {p : Addr} (hp : p.block ≠ b) : w'.frozen? p = w.frozen? p := World.frozen?_of_block (w := w) (h.block p.block hp)
theorem Tab.but {k hi n t g w w' b} (h : Tab k hi n t g w) (hb : But b w w') (hg : g ≠ b) : Tab k hi n t g w' :=
  ⟨fun i hi => by rw [hb.cell (p := ⟨g, i, none⟩) hg]; exact h.cell i hi, h.lo, h.hi⟩

/-- The number at a place of a list; 0 behind its end. (A name of its own, so that the walk leaves it alone.) -/
def nth (l : List Int) (i : Nat) : Int := l.getD i 0
theorem nth_set_same {l : List Int} {i : Nat} (h : i < l.length) (v : Int) : nth (l.set i v) i = v := by
  simp [nth, h]
theorem nth_set_ne {l : List Int} {i j : Nat} (h : i ≠ j) (v : Int) : nth (l.set i v) j = nth l j := by
  simp [nth, List.getElem?_set_ne h]

/-- The cells of a list of words. -/
def u32s (E : List Int) : List Value := E.map (Value.int .u32)
/-- The cells of a cipher's block: its rounds, its words, those of the inverse. -/
def blk (r : Int) (E D : List Int) : List Value := Value.int .i64 r :: (u32s E ++ u32s D)

/-- Block b of the world holds just these cells, and may be written. -/
def Holds (w : World) (b : Nat) (t : TypeId) (cs : List Value) : Prop := w.heap[b]? = some (.cells cs.toArray t (0, 0))

theorem Holds.cell {w b t cs} (h : Holds w b t cs) (i : Nat) : w.cell? ⟨b, i, none⟩ = cs[i]? := by
  unfold Holds at h
  simp [World.cell?, h]
theorem Holds.frozen {w b t cs} (h : Holds w b t cs) (i : Nat) : w.frozen? ⟨b, i, none⟩ = false := by
  unfold Holds at h
  simp [World.frozen?, h]
theorem Holds.drewN {w b t cs} (h : Holds w b t cs) (n : Nat) : Holds (w.drewN n) b t cs := h
theorem Holds.setCell {w b t cs} (h : Holds w b t cs) (i : Nat) (v : Value) : Holds (w.setCell ⟨b, i, none⟩ v) b t (cs.set i v) := by
  unfold Holds at *
  simp only [World.setCell, Array.getElem?_modify, h, if_pos, Option.map_some]
  simp
theorem Holds.but {w w' b t cs c} (h : Holds w b t cs) (hb : But c w w') (hne : b ≠ c) : Holds w' b t cs := by
  unfold Holds at *
  rw [hb.block b hne]; exact h
theorem Holds.below {w w' b t cs B} (h : Holds w b t cs) (hb : Below B w w') (hne : b < B) : Holds w' b t cs := by
  unfold Holds at *
  rw [hb.block b hne]; exact h
theorem Holds.lt {w b t cs} (h : Holds w b t cs) : b < w.heap.size := by
  unfold Holds at h
  exact (Array.getElem?_eq_some_iff.1 h).1

theorem Holds.new (w : World) (t : TypeId) (cs : List Value) : Holds (w.alloc (.cells cs.toArray t)) w.heap.size t cs := by
  show (w.heap.push _)[w.heap.size]? = _
  simp

theorem blk_len (r E D) : (blk r E D).length = 1 + E.length + D.length := by simp [blk, u32s]; omega
theorem blk_rounds (r E D) : (blk r E D)[0]? = some (.int .i64 r) := rfl
theorem blk_enc {r E D} {i : Nat} (h : i < E.length) : (blk r E D)[1 + i]? = some (.int .u32 (nth E i)) := by
  rw [Nat.add_comm]
  simp [blk, u32s, nth, List.getElem?_append, h]
theorem blk_dec {r E D} {i : Nat} (hE : E.length = 60) (h : i < D.length) : (blk r E D)[61 + i]? = some (.int .u32 (nth D i)) := by
  rw [show 61 + i = (60 + i) + 1 by omega]
  simp [blk, u32s, nth, hE, h]
theorem blk_set_enc {r E D} {i : Nat} (h : i < E.length) (v : Int) : (blk r E D).set (1 + i) (.int .u32 v) = blk r (E.set i v) D := by
  rw [Nat.add_comm]
  simp [blk, u32s, h, List.map_set]
theorem blk_set_dec {r E D} {i : Nat} (hE : E.length = 60) (v : Int) : (blk r E D).set (61 + i) (.int .u32 v) = blk r E (D.set i v) := by
  rw [show 61 + i = (60 + i) + 1 by omega]
  simp [blk, u32s, hE, List.map_set]
theorem blk_set_rounds {r r' E D} : (blk r E D).set 0 (.int .i64 r') = blk r' E D := rfl

theorem Holds.setEnc {w b ty r E D} (h : Holds w b ty (blk r E D)) {i : Nat} (hi : i < E.length) (v : Int) : Holds (w.setCell ⟨b, 1 + i, none⟩ (.int .u32 v)) b ty (blk r (E.set i v) D) := by
  have := h.setCell (1 + i) (.int .u32 v)
  rwa [blk_set_enc hi] at this
theorem Holds.setDec {w b ty r E D} (h : Holds w b ty (blk r E D)) {i : Nat} (hE : E.length = 60) (v : Int) : Holds (w.setCell ⟨b, 61 + i, none⟩ (.int .u32 v)) b ty (blk r E (D.set i v)) := by
  have := h.setCell (61 + i) (.int .u32 v)
  rwa [blk_set_dec hE] at this

/-- Words that fit 32 bits. -/
def Words (E : List Int) : Prop := ∀ e ∈ E, 0 ≤ e ∧ e ≤ 4294967295
theorem Words.get {E} (h : Words E) (i : Nat) : 0 ≤ nth E i ∧ nth E i ≤ 4294967295 := by
  unfold nth
  rw [List.getD_eq_getElem?_getD]
  rcases Nat.lt_or_ge i E.length with hi | hi
  · rw [List.getElem?_eq_getElem hi]; exact h _ (List.getElem_mem hi)
  · rw [List.getElem?_eq_none hi]; simp
theorem Words.set {E} (h : Words E) (i : Nat) {v : Int} (h0 : 0 ≤ v) (h1 : v ≤ 4294967295) : Words (E.set i v) := by
  intro e he
  rcases List.mem_or_eq_of_mem_set he with h' | rfl
  · exact h e h'
  · exact ⟨h0, h1⟩
theorem Words.zero (n : Nat) : Words (List.replicate n 0) := by
  intro e he
  rw [List.eq_of_mem_replicate he]; decide
end Go.Proofs.YtgjnbdpigenfjaaDoor
