/-
  The contract of the making of a cipher.
-/
import Derived.Test.YtgjnbdpigenfjaaDoorKey
namespace Go.Proofs.YtgjnbdpigenfjaaDoor
open Go Go.RowKit

theorem setRounds {ty : TypeId} {b : Nat} {w : World} {r r' : Int} {E D : List Int} (h : Holds w b ty (blk r E D)) : Holds (w.setCell ⟨b, 0, none⟩ (.int .i64 r')) b ty (blk r' E D) := by
  have := h.setCell 0 (.int .i64 r')
  rwa [blk_set_rounds] at this

set_option maxRecDepth 100000 in
theorem expanded_any (pw sb d0 d1 d2 d3 : Nat → Int) (ty : TypeId) (b kb cap nk : Nat) (key D : List Int) (r0 : Int) (w : World) (ht : KTabs pw sb d0 d1 d2 d3 w)
    (hk : Bytes w kb 0 key) (hn : key.length = 4 * nk) (hnk : nk = 4 ∨ nk = 6 ∨ nk = 8) (hH : Holds w b ty (blk r0 (List.replicate 60 0) D)) (hD : D.length = 60) (hDw : Words D)
    (hkb : kb ≠ b) (hg : GBelow b) (hcap : 4 * nk ≤ cap) :
    Calls Tryd.prog 19 #[.pointer (some ⟨b, 0, none⟩), .slice (some ⟨kb, 0, none⟩) (4 * nk) cap] w fun e w' => e = .returned (.tuple #[]) ∧
      ∃ D', D'.length = 60 ∧ Words D' ∧ But b w w' ∧ Holds w' b ty (blk (nk + 6 : Nat) (sched pw sb key) D') := by
  have hz : w.cell? ⟨b, 0, none⟩ = some (.int .i64 r0) := by rw [hH.cell, blk_rounds]
  have hf : w.frozen? ⟨b, 0, none⟩ = false := hH.frozen _
  have hbut : ∀ v, But b w (w.setCell ⟨b, 0, none⟩ v) := fun v => (But.refl b w).setCell rfl v
  rcases hnk with rfl | rfl | rfl
  · go_enter Tryd.func19, Tryd.ntmps19
    go_wp2_with fail
    refine (expand_any pw sb d0 d1 d2 d3 ty b kb cap 4 key D 10 _ (ht.but (hbut _) hg) (hk.but (hbut _) hkb) hn (by decide) (setRounds hH) hD hDw (by decide) (by decide) hkb hg hcap).mono ?_
    rintro e w' ⟨rfl, D', h1, h2, h3, h4⟩
    go_wp2_with fail
    go_end0
    exact ⟨rfl, D', h1, h2, (hbut _).trans h3, h4⟩
  · go_enter Tryd.func19, Tryd.ntmps19
    go_wp2_with fail
    refine (expand_any pw sb d0 d1 d2 d3 ty b kb cap 6 key D 12 _ (ht.but (hbut _) hg) (hk.but (hbut _) hkb) hn (by decide) (setRounds hH) hD hDw (by decide) (by decide) hkb hg hcap).mono ?_
    rintro e w' ⟨rfl, D', h1, h2, h3, h4⟩
    go_wp2_with fail
    go_end0
    exact ⟨rfl, D', h1, h2, (hbut _).trans h3, h4⟩
  · go_enter Tryd.func19, Tryd.ntmps19
    go_wp2_with fail
    refine (expand_any pw sb d0 d1 d2 d3 ty b kb cap 8 key D 14 _ (ht.but (hbut _) hg) (hk.but (hbut _) hkb) hn (by decide) (setRounds hH) hD hDw (by decide) (by decide) hkb hg hcap).mono ?_
    rintro e w' ⟨rfl, D', h1, h2, h3, h4⟩
    go_wp2_with fail
    go_end0
    exact ⟨rfl, D', h1, h2, (hbut _).trans h3, h4⟩

set_option maxRecDepth 100000 in
theorem newBlock_any (pw sb d0 d1 d2 d3 : Nat → Int) (ty : TypeId) (b kb cap nk : Nat) (key D : List Int) (r0 : Int) (w : World) (ht : KTabs pw sb d0 d1 d2 d3 w)
    (hk : Bytes w kb 0 key) (hn : key.length = 4 * nk) (hnk : nk = 4 ∨ nk = 6 ∨ nk = 8) (hH : Holds w b ty (blk r0 (List.replicate 60 0) D)) (hD : D.length = 60) (hDw : Words D)
    (hkb : kb ≠ b) (hg : GBelow b) (hcap : 4 * nk ≤ cap) :
    Calls Tryd.prog 15 #[.pointer (some ⟨b, 0, none⟩), .slice (some ⟨kb, 0, none⟩) (4 * nk) cap] w fun e w' => e = .returned (.pointer (some ⟨b, 0, none⟩)) ∧
      ∃ D', D'.length = 60 ∧ Words D' ∧ But b w w' ∧ Holds w' b ty (blk (nk + 6 : Nat) (sched pw sb key) D') := by
  go_enter Tryd.func15, Tryd.ntmps15
  go_wp2_with fail
  refine (expanded_any pw sb d0 d1 d2 d3 ty b kb cap nk key D r0 _ ht hk hn hnk hH hD hDw hkb hg hcap).mono ?_
  rintro e w' ⟨rfl, D', h1, h2, h3, h4⟩
  go_wp2_with fail
  go_ret
  exact ⟨rfl, D', h1, h2, h3, h4⟩

set_option maxRecDepth 100000 in
theorem outlined_any (pw sb d0 d1 d2 d3 : Nat → Int) (ty : TypeId) (b kb cap nk : Nat) (key D : List Int) (r0 : Int) (w : World) (ht : KTabs pw sb d0 d1 d2 d3 w)
    (hk : Bytes w kb 0 key) (hn : key.length = 4 * nk) (hnk : nk = 4 ∨ nk = 6 ∨ nk = 8) (hH : Holds w b ty (blk r0 (List.replicate 60 0) D)) (hD : D.length = 60) (hDw : Words D)
    (hkb : kb ≠ b) (hg : GBelow b) (hcap : 4 * nk ≤ cap) :
    Calls Tryd.prog 13 #[.pointer (some ⟨b, 0, none⟩), .slice (some ⟨kb, 0, none⟩) (4 * nk) cap] w fun e w' => e = .returned (.tuple #[.pointer (some ⟨b, 0, none⟩), .nilIface]) ∧
      ∃ D', D'.length = 60 ∧ Words D' ∧ But b w w' ∧ Holds w' b ty (blk (nk + 6 : Nat) (sched pw sb key) D') := by
  rcases hnk with rfl | rfl | rfl
  · go_enter Tryd.func13, Tryd.ntmps13
    go_wp2_with fail
    refine (newBlock_any pw sb d0 d1 d2 d3 ty b kb cap 4 key D r0 _ ht hk hn (by decide) hH hD hDw hkb hg hcap).mono ?_
    rintro e w' ⟨rfl, D', h1, h2, h3, h4⟩
    go_wp2_with fail
    go_ret2
    exact ⟨rfl, D', h1, h2, h3, h4⟩
  · go_enter Tryd.func13, Tryd.ntmps13
    go_wp2_with fail
    refine (newBlock_any pw sb d0 d1 d2 d3 ty b kb cap 6 key D r0 _ ht hk hn (by decide) hH hD hDw hkb hg hcap).mono ?_
    rintro e w' ⟨rfl, D', h1, h2, h3, h4⟩
    go_wp2_with fail
    go_ret2
    exact ⟨rfl, D', h1, h2, h3, h4⟩
  · go_enter Tryd.func13, Tryd.ntmps13
    go_wp2_with fail
    refine (newBlock_any pw sb d0 d1 d2 d3 ty b kb cap 8 key D r0 _ ht hk hn (by decide) hH hD hDw hkb hg hcap).mono ?_
    rintro e w' ⟨rfl, D', h1, h2, h3, h4⟩
    go_wp2_with fail
    go_ret2
    exact ⟨rfl, D', h1, h2, h3, h4⟩

/-- The cells of a cipher that is not yet made. -/
def zeroCells : List Value := blk 0 (List.replicate 60 0) (List.replicate 60 0)

theorem zero_block (w : World) : (zeroValue 47).run Tryd.prog w = .ok (.agg zeroCells.toArray) w := by kernel_rfl

set_option maxRecDepth 100000 in
theorem new_any (pw sb d0 d1 d2 d3 : Nat → Int) (kb cap nk : Nat) (key : List Int) (w : World) (ht : KTabs pw sb d0 d1 d2 d3 w)
    (hk : Bytes w kb 0 key) (hn : key.length = 4 * nk) (hnk : nk = 4 ∨ nk = 6 ∨ nk = 8) (hkb : kb < w.heap.size) (hcap : 4 * nk ≤ cap) :
    Calls Tryd.prog 10 #[.slice (some ⟨kb, 0, none⟩) (4 * nk) cap] w fun e w' => e = .returned (.tuple #[.pointer (some ⟨w.heap.size, 0, none⟩), .nilIface]) ∧
      ∃ D', D'.length = 60 ∧ Words D' ∧ Below w.heap.size w w' ∧ w'.heap.size = w.heap.size + 1 ∧ Holds w' w.heap.size 47 (blk (nk + 6 : Nat) (sched pw sb key) D') := by
  have hz := zero_block
  have hb0 : Below w.heap.size w (w.alloc (.cells zeroCells.toArray 47)) := (Below.refl _ _).alloc (Nat.le_refl _) _
  go_enter Tryd.func10, Tryd.ntmps10
  go_wp2_with fail
  refine (outlined_any pw sb d0 d1 d2 d3 47 w.heap.size kb cap nk key (List.replicate 60 0) 0 _ (ht.below hb0 ht.gbelow) (hk.below hb0 hkb) hn hnk (Holds.new w _ _) (by simp) (Words.zero _) (by omega) ht.gbelow hcap).mono ?_
  rintro e w' ⟨rfl, D', h1, h2, h3, h4⟩
  go_wp2_with fail
  go_ret2
  exact ⟨rfl, D', h1, h2, hb0.trans (h3.below (Nat.le_refl _)), by rw [h3.size]; simp, h4⟩
end Go.Proofs.YtgjnbdpigenfjaaDoor
