/-
  The contract of the copy of bytes.
-/
import Derived.Test.YtgjnbdpigenfjaaDoorWords
import Derived.Test.YtgjnbdpigenfjaaDoorNew
import Derived.Deep.MidRow
namespace Go.Proofs.YtgjnbdpigenfjaaDoor
open Go Go.RowKit

theorem byte_info : (Tryd.prog.info? 5).map (fun i => (i.zero, i.size, i.bytes)) = some (some (.int .u8 0), 1, 1) := by kernel_rfl

theorem copied_any (A : Option Addr) (n c : Nat) (xs : List Value) (w : World) (ha : Reads w w.heap.size 1 A n xs) (h1 : ∀ u ∈ xs, u.oneCell' = true) (hn : n ≤ 140737488355328) :
    Calls Tryd.prog 11 #[.slice A n c] w fun e w' => ∃ v, e = .returned v ∧ w'.ownsRow w.heap.size 5 1 v n xs ∧ Below w.heap.size w w' := by
  obtain ⟨i0, hi0, hz0, hz1, hz2⟩ := info_parts byte_info
  go_enter Tryd.func11, Tryd.ntmps11
  go_wp2_with
    (at_builtin
     refine wpList_append_any _ rfl (.const (.slice none 0 0)) (.tmp 3) _ rfl w.heap.size 5 i0 _ 1 1 Tryd.underlying22 hi0 hz0 hz1 hz2 rfl (by omega) (.slice none 0 0) 0 [] rfl
         ⟨by simp, .inl ⟨rfl, rfl⟩⟩ w.heap.size A n c xs rfl ha h1 (by simp only [maxLen]; omega) (by omega) (Nat.le_refl _) ?_
     intro v1 w1 hown1 hg1 hat1)
  go_ret
  exact ⟨v1, rfl, by simpa using hown1, (Below.refl _ _).grown hg1 (Nat.le_refl _) (by simp [Value.ownBlock])⟩

/-- The cells of bytes. -/
def u8s (l : List Int) : List Value := l.map (Value.int .u8)
theorem u8s_one (l : List Int) : ∀ u ∈ u8s l, u.oneCell' = true := by
  intro u hu
  obtain ⟨n, _, rfl⟩ := List.mem_map.1 hu
  rfl

/-- What a copy of some bytes is. -/
theorem bytes_of_own {w : World} {base : Nat} {v : Value} {l : List Int} (h : w.ownsRow base 5 1 v l.length (u8s l)) (hl : 0 < l.length) (hf : ∀ i, 0 ≤ nth l i ∧ nth l i ≤ 255) :
    ∃ g cap, v = .slice (some ⟨g, 0, none⟩) l.length cap ∧ base ≤ g ∧ g < w.heap.size ∧ l.length ≤ cap ∧ Bytes w g 0 l := by
  obtain ⟨g, cap, rfl, hb, hlt⟩ := h.form hl
  refine ⟨g, cap, rfl, hb, hlt, ?_, ⟨fun i hi => ?_, hf⟩⟩
  · rcases h.2 with ⟨h0, _⟩ | ⟨g', cap', cur, hv, _, _, hle, _⟩
    · cases h0
    · cases hv
      omega
  · have := h.cells (g := g) rfl i (.int .u8 (nth l i)) (by simp [u8s, nth, List.getElem?_eq_getElem hi])
    rw [Addr.add_mid] at this
    exact this
end Go.Proofs.YtgjnbdpigenfjaaDoor
