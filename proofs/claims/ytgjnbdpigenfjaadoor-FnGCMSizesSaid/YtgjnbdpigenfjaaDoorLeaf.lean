/-
  Contracts of the leaves of the key's schedule: a word of four bytes, its turning, its substitution by whatever table, the number of a schedule's words.
-/
import Derived.Test.YtgjnbdpigenfjaaDoorProg
import Derived.Test.YtgjnbdpigenfjaaDoorPlain
import Derived.WalkKit
import Derived.WalkLawsBesides
import Derived.Outline
import Derived.Deep.QuietTactic
import Derived.BigQuiet
import Derived.Lib.Hide
namespace Go.Proofs.YtgjnbdpigenfjaaDoor
open Go Go.RowKit

theorem rotw_any (x : Int) (w : World) (_h0 : 0 ≤ x) (_h1 : x ≤ 4294967295) :
    Calls Tryd.prog 25 #[.int .u32 x] w fun e w' => e = .returned (.int .u32 (rotU x)) ∧ w = w' := by
  go_enter Tryd.func25, Tryd.ntmps25
  go_wp2
  go_ret
  exact ⟨rfl, rfl⟩

/-- What the substitution of a word gives by a table of bytes. -/
def subU (s : Nat → Int) (x : Int) : Int := sub4 (s (x / 16777216).toNat) (s (x / 65536 % 256).toNat) (s (x / 256 % 256).toNat) (s (x % 256).toNat)
theorem subU_bd (s : Nat → Int) (x : Int) : 0 ≤ subU s x ∧ subU s x ≤ 4294967295 := sub4_bd _ _ _ _

theorem subw_cells (x : Int) (w : World) (h0 : 0 ≤ x) (h1 : x ≤ 4294967295) (y1 y2 y3 y4 : Int)
    (hc1 : w.cell? ⟨2, (x / 16777216).toNat, none⟩ = some (.int .u8 y1)) (hy1 : 0 ≤ y1) (hz1 : y1 ≤ 255)
    (hc2 : w.cell? ⟨2, (x / 65536 % 256).toNat, none⟩ = some (.int .u8 y2)) (hy2 : 0 ≤ y2) (hz2 : y2 ≤ 255)
    (hc3 : w.cell? ⟨2, (x / 256 % 256).toNat, none⟩ = some (.int .u8 y3)) (hy3 : 0 ≤ y3) (hz3 : y3 ≤ 255)
    (hc4 : w.cell? ⟨2, (x % 256).toNat, none⟩ = some (.int .u8 y4)) (hy4 : 0 ≤ y4) (hz4 : y4 ≤ 255) :
    Calls Tryd.prog 24 #[.int .u32 x] w fun e w' => e = .returned (.int .u32 (sub4 y1 y2 y3 y4)) ∧ ∃ n, w' = w.drewN n := by
  have b1 : 0 ≤ x / 16777216 := by omega
  have b2 : x / 16777216 < 256 := by omega
  have b3 : 0 ≤ x / 65536 % 256 := by omega
  have b4 : x / 65536 % 256 < 256 := by omega
  have b5 : 0 ≤ x / 256 % 256 := by omega
  have b6 : x / 256 % 256 < 256 := by omega
  have b7 : 0 ≤ x % 256 := by omega
  have b8 : x % 256 < 256 := by omega
  have w1 := wrap_u32 (y := y1) (by omega) (by omega)
  have w2 := wrap_u32 (y := y2) (by omega) (by omega)
  have w3 := wrap_u32 (y := y3) (by omega) (by omega)
  have w4 := wrap_u32 (y := y4) (by omega) (by omega)
  have w1' := wrap_u32 (y := y1 * 16777216) (by omega) (by omega)
  have w2' := wrap_u32 (y := y2 * 65536) (by omega) (by omega)
  have w3' := wrap_u32 (y := y3 * 256) (by omega) (by omega)
  have a2 := and255 (y := x / 65536) (by omega) (by omega)
  have a3 := and255 (y := x / 256) (by omega) (by omega)
  have a4 := and255 (y := x) (by omega) (by omega)
  go_enter Tryd.func24, Tryd.ntmps24
  go_wp2
  go_quiet (fail)
  go_wp2
  go_ret
  exact ⟨rfl, _, rfl⟩

theorem subw_any (s : Nat → Int) (x : Int) (w : World) (hs : Tab .u8 255 256 s 2 w) (h0 : 0 ≤ x) (h1 : x ≤ 4294967295) :
    Calls Tryd.prog 24 #[.int .u32 x] w fun e w' => e = .returned (.int .u32 (subU s x)) ∧ ∃ n, w' = w.drewN n :=
  subw_cells x w h0 h1 _ _ _ _ (hs.cell _ (by omega)) (hs.lo _ (by omega)) (hs.hi _ (by omega)) (hs.cell _ (by omega)) (hs.lo _ (by omega)) (hs.hi _ (by omega))
    (hs.cell _ (by omega)) (hs.lo _ (by omega)) (hs.hi _ (by omega)) (hs.cell _ (by omega)) (hs.lo _ (by omega)) (hs.hi _ (by omega))

/-- Four bytes from an offset of a block on. -/
theorem be_aes (b o len cap : Nat) (y0 y1 y2 y3 : Int) (w : World) (hl : 4 ≤ len)
    (hc0 : w.cell? ⟨b, o, none⟩ = some (.int .u8 y0)) (hy0 : 0 ≤ y0) (hz0 : y0 ≤ 255)
    (hc1 : w.cell? ⟨b, o + 1, none⟩ = some (.int .u8 y1)) (hy1 : 0 ≤ y1) (hz1 : y1 ≤ 255)
    (hc2 : w.cell? ⟨b, o + 2, none⟩ = some (.int .u8 y2)) (hy2 : 0 ≤ y2) (hz2 : y2 ≤ 255)
    (hc3 : w.cell? ⟨b, o + 3, none⟩ = some (.int .u8 y3)) (hy3 : 0 ≤ y3) (hz3 : y3 ≤ 255) :
    Calls Tryd.prog 22 #[.slice (some ⟨b, o, none⟩) len cap] w fun e w' => e = .returned (.int .u32 (be4 y0 y1 y2 y3)) ∧ ∃ n, w' = w.drewN n := by
  have l0 : (0 : Int) < (len : Int) := by omega
  have l1 : (1 : Int) < (len : Int) := by omega
  have l2 : (2 : Int) < (len : Int) := by omega
  have l3 : (3 : Int) < (len : Int) := by omega
  have w1 := wrap_u32 (y := y0) (by omega) (by omega)
  have w2 := wrap_u32 (y := y1) (by omega) (by omega)
  have w3 := wrap_u32 (y := y2) (by omega) (by omega)
  have w4 := wrap_u32 (y := y3) (by omega) (by omega)
  have w1' := wrap_u32 (y := y0 * 16777216) (by omega) (by omega)
  have w2' := wrap_u32 (y := y1 * 65536) (by omega) (by omega)
  have w3' := wrap_u32 (y := y2 * 256) (by omega) (by omega)
  go_enter Tryd.func22, Tryd.ntmps22
  go_wp2
  go_quiet (fail)
  go_wp2
  go_ret
  exact ⟨rfl, _, rfl⟩

theorem keysize_any (b : Nat) (r : Int) (w : World) (hc : w.cell? ⟨b, 0, none⟩ = some (.int .i64 r)) (h0 : 0 ≤ r) (h1 : r ≤ 14) :
    Calls Tryd.prog 23 #[.pointer (some ⟨b, 0, none⟩)] w fun e w' => e = .returned (.int .i64 ((r + 1) * 4)) ∧ w = w' := by
  go_enter Tryd.func23, Tryd.ntmps23
  go_wp2
  go_ret
  exact ⟨rfl, rfl⟩
end Go.Proofs.YtgjnbdpigenfjaaDoor
