/-
  FnGCMSizes holds of every input: for keys of 16, 24 and 32 bytes, tags of 12 to 16 bytes and nonces of 1 to 2^14 bytes GCM tells just these two sizes; at every other input the law is true at once. The row lists no variable: the proof speaks of every value of the tables powx, sbox0, td0, td1, td2, td3. No condition.
-/
import Derived.Test.YtgjnbdpigenfjaaDoorRows
import Derived.Test.YtgjnbdpigenfjaaDoorLawSizes
import Derived.Test.YtgjnbdpigenfjaaDoorVars
namespace Go.Proofs.YtgjnbdpigenfjaaDoor.fnGCMSizesDone
open Go Go.ChangeShapes Go.WideShapes Go.ChangeAt Go.RowKit

theorem own : ownKnob Tryd.prog.godebug = none := by kernel_rfl
theorem laidOut : laidOutB Tryd.prog = true := by kernel_rfl
theorem cw : Tryd.prog.cellsOf 40 = 1 := by kernel_rfl

/-- The open tables, out of the row's variables. -/
theorem tables {H : Type} {enc : TypeId × Value → H} {W : World} {gs : List (DataW H)} {q : List MemPlace}
    (hV : DataW.TrodVars enc Tryd.prog W (fun _ => true) Rows.fnGCMSizesSpec.vars gs q) :
    (∃ pw sb d0 d1 d2 d3, KTabs pw sb d0 d1 d2 d3 W) ∧ ∃ g1 g2 g3 g4 g5 g6, gs = [g1, g2, g3, g4, g5, g6] := by
  obtain ⟨⟨pw, hpw⟩, g1, s1, _, e1, hV1⟩ := open_head (g := 0) (t := 65) (n := 16) (k := .u8) (by kernel_rfl) (by kernel_rfl) Tryd.underlying65 Tryd.underlying5 u8_cells8 hV
  obtain ⟨⟨sb, hsb⟩, g2, s2, _, e2, hV2⟩ := open_head (g := 2) (t := 68) (n := 256) (k := .u8) (by kernel_rfl) (by kernel_rfl) Tryd.underlying68 Tryd.underlying5 u8_cells8 hV1
  obtain ⟨⟨d0, h0⟩, g3, s3, _, e3, hV3⟩ := open_head (g := 1) (t := 67) (n := 256) (k := .u32) (by kernel_rfl) (by kernel_rfl) Tryd.underlying67 Tryd.underlying40 cw hV2
  obtain ⟨⟨d1, h1⟩, g4, s4, _, e4, hV4⟩ := open_head (g := 3) (t := 67) (n := 256) (k := .u32) (by kernel_rfl) (by kernel_rfl) Tryd.underlying67 Tryd.underlying40 cw hV3
  obtain ⟨⟨d2, h2⟩, g5, s5, _, e5, hV5⟩ := open_head (g := 4) (t := 67) (n := 256) (k := .u32) (by kernel_rfl) (by kernel_rfl) Tryd.underlying67 Tryd.underlying40 cw hV4
  obtain ⟨⟨d3, h3⟩, g6, s6, _, e6, hV6⟩ := open_head (g := 5) (t := 67) (n := 256) (k := .u32) (by kernel_rfl) (by kernel_rfl) Tryd.underlying67 Tryd.underlying40 cw hV5
  refine ⟨⟨pw, sb, d0, d1, d2, d3, tab_u8 hpw, tab_u8 hsb, tab_u32 h0, tab_u32 h1, tab_u32 h2, tab_u32 h3⟩, g1, g2, g3, g4, g5, g6, ?_⟩
  cases s6 with
  | nil => rw [e1, e2, e3, e4, e5, e6]
  | cons d ds => exact hV6.elim

set_option maxRecDepth 100000 in
theorem lifted (os : Os) (started : os.Started) (H : Type) (enc : TypeId × Value → H) :
    ReturnsInHanded {} Tryd.checked os 3 .any (Rows.fnGCMSizesSpec.pre6 enc Tryd.prog Tryd.f3 Rows.fnGCMSizesRow.domain false) (Rows.fnGCMSizesSpec.post enc Tryd.prog Tryd.f3 false true false false) := by
  refine returnsInHanded_of_change (C := Tryd.checked) own started (by kernel_rfl) Tryd.func3
    (ChangeSpec.witness6 (enc := enc) (C := Tryd.checked) false ⟨#[], #[.slice none 0 0, .int .i64 0, .int .i64 0], []⟩ 8 (by kernel_rfl) (by kernel_rfl) (by kernel_rfl) (by kernel_rfl)) ?_
  intro W base args ds gs before hval0 hW hcnd _
  have hval : ∀ (j : Nat) t v, Tryd.f3.params[j]? = some t → args[j]? = some v → Value.okWide Tryd.prog W .any base t v := hval0
  have hW' := hW
  obtain ⟨p, q, hA0, hV, rfl, hfz, hnd⟩ := hW
  have hA : DataW.TrodAll enc Tryd.prog W 0 (fun _ => true) true Tryd.f3.params.toList args.toList ds p := hA0
  rw [Tryd.params3] at hA hval
  obtain ⟨v0, vs0, dd0, ds0, p0, q0, hargs, rfl, rfl, h0, r0⟩ := trodAll_cons hA
  obtain ⟨v1, vs1, dd1, ds1, p1, q1, rfl, rfl, rfl, h1, r1⟩ := trodAll_cons r0
  obtain ⟨v2, vs2, dd2, ds2, p2, q2, rfl, rfl, rfl, h2, r2⟩ := trodAll_cons r1
  obtain ⟨rfl, rfl, rfl⟩ := trodAll_nil r2
  obtain rfl : args = #[v0, v1, v2] := by cases args; simp_all
  obtain ⟨a0, len0, cap0, rfl⟩ := okWide_slice Tryd.underlying22 (hval 0 22 v0 rfl rfl)
  have k0 := h0
  have lt0 : ∀ x ∈ p0, x.block < W.heap.size := by obtain ⟨m, hm⟩ := k0; exact DataW.trod_lt m _ _ _ hm
  obtain ⟨key, hkl, _, _, hkr, hkf⟩ := open_bytes h0 lt0
  obtain ⟨n1, rfl, rfl, rfl, w1⟩ := open_int Tryd.underlying3 (hval 1 3 v1 rfl rfl) h1
  obtain ⟨n2, rfl, rfl, rfl, w2⟩ := open_int Tryd.underlying3 (hval 2 3 v2 rfl rfl) h2
  obtain ⟨⟨pw, sb, t0, t1, t2, t3, ht⟩, g1, g2, g3, g4, g5, g6, rfl⟩ := tables hV
  clear hA0 hval0
  refine (law_sizes pw sb t0 t1 t2 t3 a0 len0 cap0 key n1 n2 W ht hkr hkl hkf).mono fun e W' ⟨he, bel⟩ => ?_
  subst he
  exact ⟨_, rfl, _, _, _, [], _, q, hW', trodAll_mk1 (shut_bool Tryd.underlying4 _), (trodAll_cons_mk (Below.trod laidOut (by kernel_rfl) (of_decide_eq_true (by kernel_rfl)) k0 bel lt0) (trodAll_cons_mk (shut_int Tryd.underlying3 w1) (trodAll_cons_mk (shut_int Tryd.underlying3 w2) trodAll_mk0))), bel.trodVars laidOut (by kernel_rfl) hV, bel.frame _, fun h => by cases h⟩

theorem over : Rows.fnGCMSizesRow.holds Tryd.pinned (OpenSpec.ofChange Rows.fnGCMSizesSpec) :=
  OpenClaim.holds_of_wide 3 Tryd.f3 rfl rfl rfl rfl rfl rfl rfl ⟨rfl, rfl, rfl, rfl, rfl⟩ rfl rfl rfl rfl rfl (by kernel_rfl) Tryd.func3 (by kernel_rfl)
    (of_decide_eq_true (by kernel_rfl)) (by unfold Func.isWrapper; first | (rw [if_pos (by decide +kernel)]; kernel_rfl) | (rw [if_neg (by decide +kernel)]; exact ⟨rfl, rfl⟩))
    (fun os started H enc _ => lifted os started H enc)

/-- The statement. -/
theorem proved : Rows.FnGCMSizesSaid := over
#print axioms proved
end Go.Proofs.YtgjnbdpigenfjaaDoor.fnGCMSizesDone
