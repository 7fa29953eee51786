/-
  A package-level array of integers that a row leaves open: what its cells hold, whatever that is. And a slice of bytes that came in, as a list.
-/
import Derived.Test.YtgjnbdpigenfjaaDoorCopied
import Derived.ProofKit
import Derived.OpenShut
import Derived.ChangeOld
import Derived.OpenVars
namespace Go.Proofs.YtgjnbdpigenfjaaDoor
open Go Go.ChangeShapes Go.WideShapes Go.ChangeAt Go.RowKit

theorem array_cells {H : Type} {enc : TypeId × Value → H} {P : Program} {w : World} {base : Nat} {sp : Nat → Bool} {held : Bool} {fuel t e n : Nat} {k : IntKind} {cs : List Value} {x : DataW H × List MemPlace}
    (ht : P.underlying t = some (.array n e)) (he : P.underlying e = some (.int k)) (hce : P.cellsOf e = 1) (h : DataW.trod enc P w base sp held fuel t cs = some x) :
    ∀ i, i < n → ∃ z, cs[i]? = some (.int k z) ∧ (Lit.int k z).wf = true := by
  obtain ⟨xs, m, rfl, _, _, hx, hall⟩ := DataW.trod_array ht h
  intro i hi
  have h1 := hall i hi
  rw [hce, Nat.mul_one, List.getElem?_eq_getElem (by omega)] at h1
  obtain ⟨z, hz, _, hw⟩ := DataW.trod_int he h1
  refine ⟨z, ?_, hw⟩
  have := congrArg (·[0]?) hz
  simpa [List.getElem?_take, List.getElem?_drop] using this

/-- THE FIRST of the open variables is an array of integers: its cells; and the rest of the list. -/
theorem open_head {H : Type} {enc : TypeId × Value → H} {P : Program} {w : World} {sp : Nat → Bool} {nm : String} {ns : List String} {gs : List (DataW H)} {q : List MemPlace} {g t e n : Nat} {k : IntKind}
    (hg : P.globalNamed nm = some g) (hty : (P.globals[g]?).map (·.type) = some t) (ht : P.underlying t = some (.array n e)) (he : P.underlying e = some (.int k)) (hce : P.cellsOf e = 1)
    (h : DataW.TrodVars enc P w sp (nm :: ns) gs q) :
    (∃ f : Nat → Int, ∀ i, i < n → w.cell? ⟨g, i, none⟩ = some (.int k (f i)) ∧ (Lit.int k (f i)).wf = true) ∧ ∃ d ds q', gs = d :: ds ∧ DataW.TrodVars enc P w sp ns ds q' := by
  cases gs with
  | nil => exact h.elim
  | cons d ds =>
    obtain ⟨g', t', cs, fuel, p, q', h1, h2, h3, h4, h5, _⟩ := h
    rw [hg] at h1
    obtain rfl := Option.some.inj h1
    rw [hty] at h2
    obtain rfl := Option.some.inj h2
    refine ⟨?_, d, ds, q', rfl, h5⟩
    have hc := array_cells ht he hce h4
    refine ⟨fun i => match cs.toList[i]? with | some (.int _ z) => z | _ => 0, fun i hi => ?_⟩
    obtain ⟨z, hz, hw⟩ := hc i hi
    have e1 : (match cs.toList[i]? with | some (.int _ z) => z | _ => 0) = z := by rw [hz]
    refine ⟨?_, by show (Lit.int k (match cs.toList[i]? with | some (.int _ z) => z | _ => 0)).wf = true; rw [e1]; exact hw⟩
    show _ = some (Value.int k (match cs.toList[i]? with | some (.int _ z) => z | _ => 0))
    rw [e1]
    unfold World.var? at h3
    rw [hg] at h3
    simp only [Option.bind_some] at h3
    split at h3
    · rename_i c e' f' hh
      obtain rfl := Option.some.inj h3
      simpa [World.cell?, hh] using hz
    · cases h3

theorem tab_u8 {g n : Nat} {w : World} {f : Nat → Int} (h : ∀ i, i < n → w.cell? ⟨g, i, none⟩ = some (.int .u8 (f i)) ∧ (Lit.int .u8 (f i)).wf = true) : Tab .u8 255 n f g w :=
  ⟨fun i hi => (h i hi).1, fun i hi => (bounds_u8 (h i hi).2).1, fun i hi => (bounds_u8 (h i hi).2).2⟩
theorem tab_u32 {g n : Nat} {w : World} {f : Nat → Int} (h : ∀ i, i < n → w.cell? ⟨g, i, none⟩ = some (.int .u32 (f i)) ∧ (Lit.int .u32 (f i)).wf = true) : Tab .u32 4294967295 n f g w :=
  ⟨fun i hi => (h i hi).1, fun i hi => (bounds_u32 (h i hi).2).1, fun i hi => (bounds_u32 (h i hi).2).2⟩

theorem u8_cells8 : Tryd.prog.cellsOf 5 = 1 := by kernel_rfl

/-- A slice of bytes that came in: the list of its elements. -/
theorem open_bytes {H : Type} {enc : TypeId × Value → H} {W : World} {p : List MemPlace} {a : Option Addr} {len cap : Nat} {d : DataW H}
    (h : DataW.Trod enc Tryd.prog W 0 (fun _ => true) true 22 (.slice a len cap) d p) (hlt : ∀ x ∈ p, x.block < W.heap.size) :
    ∃ l : List Int, l.length = len ∧ len ≤ cap ∧ cap ≤ maxLen ∧ Reads W W.heap.size 1 a len (u8s l) ∧ ∀ i, 0 ≤ nth l i ∧ nth l i ≤ 255 := by
  obtain ⟨fuel, hf⟩ := h
  rcases open_ints Tryd.underlying22 Tryd.underlying5 u8_cells8 hf with ⟨hcs, _⟩ | ⟨x, l, c, zs, hcs, _, hl, hm, hz, hx, hcell, hwz⟩
  · simp [Value.cells] at hcs
    obtain ⟨rfl, rfl, rfl⟩ := hcs
    exact ⟨[], rfl, Nat.le_refl _, Nat.zero_le _, Reads.none_, fun i => by simp [nth]⟩
  · simp [Value.cells] at hcs
    obtain ⟨rfl, rfl, rfl⟩ := hcs
    have hz' : zs.length = cap := by simpa using hz
    refine ⟨zs.take len, by simp; omega, hl, hm, ⟨by simp [u8s]; omega, fun hn => ⟨x, rfl, ?_, fun j u hu => ?_⟩⟩, fun i => ?_⟩
    · obtain ⟨d', p'⟩ := Prod.mk.inj hx
      have := hlt (.cell x.block x.off) (by
        rw [p']
        have : 0 < zs.length := by omega
        cases zs with
        | nil => simp at this
        | cons z zs => simp [MemPlace.row])
      exact this
    · simp only [u8s, List.getElem?_map, List.getElem?_take] at hu
      split at hu
      · rename_i hj
        rw [List.getElem?_eq_getElem (by omega)] at hu
        obtain rfl := Option.some.inj hu
        rw [hcell j (by omega)]
        simp [List.getElem?_eq_getElem (show j < zs.length by omega)]
      · cases hu
    · unfold nth
      rw [List.getD_eq_getElem?_getD, List.getElem?_take]
      split
      · rename_i hj
        rw [List.getElem?_eq_getElem (by omega)]
        exact bounds_u8 (hwz _ (List.getElem_mem _))
      · simp
end Go.Proofs.YtgjnbdpigenfjaaDoor
