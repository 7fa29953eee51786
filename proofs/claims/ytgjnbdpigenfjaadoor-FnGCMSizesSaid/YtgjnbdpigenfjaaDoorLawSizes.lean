/-
  The law FnGCMSizes, walked: whatever the tables hold, it is true, and nothing that was there is turned.
-/
import Derived.Test.YtgjnbdpigenfjaaDoorGcm
namespace Go.Proofs.YtgjnbdpigenfjaaDoor
open Go Go.RowKit

theorem isKey_yes (A : Option Addr) (len cap : Nat) (w : World) (h : len = 16 ∨ len = 24 ∨ len = 32) :
    Calls Tryd.prog 4 #[.slice A len cap] w fun e w' => e = .returned (.bool true) ∧ w = w' := by
  rcases h with rfl | rfl | rfl <;>
  · go_enter Tryd.func4, Tryd.ntmps4
    go_wp2
    go_ret
    exact ⟨rfl, rfl⟩

theorem isKey_no (A : Option Addr) (len cap : Nat) (w : World) (h : ¬ (len = 16 ∨ len = 24 ∨ len = 32)) :
    Calls Tryd.prog 4 #[.slice A len cap] w fun e w' => e = .returned (.bool false) ∧ w = w' := by
  have h1 : ((len : Int) == 16) = false := by rw [beq_eq_false_iff_ne]; omega
  have h2 : ((len : Int) == 24) = false := by rw [beq_eq_false_iff_ne]; omega
  have h3 : ((len : Int) == 32) = false := by rw [beq_eq_false_iff_ne]; omega
  go_enter Tryd.func4, Tryd.ntmps4
  go_wp2
  go_ret
  exact ⟨rfl, rfl⟩

theorem isTag_yes (ts : Int) (w : World) (h : 12 ≤ ts) (h' : ts ≤ 16) :
    Calls Tryd.prog 5 #[.int .i64 ts] w fun e w' => e = .returned (.bool true) ∧ w = w' := by
  have d1 : decide (12 ≤ ts) = true := by simpa using h
  have d2 : decide (ts ≤ 16) = true := by simpa using h'
  go_enter Tryd.func5, Tryd.ntmps5
  go_wp2
  go_ret
  exact ⟨rfl, rfl⟩

theorem isTag_no (ts : Int) (w : World) (h : ts < 12 ∨ 16 < ts) :
    Calls Tryd.prog 5 #[.int .i64 ts] w fun e w' => e = .returned (.bool false) ∧ w = w' := by
  rcases h with h | h
  · have d1 : decide (12 ≤ ts) = false := by simpa using h
    go_enter Tryd.func5, Tryd.ntmps5
    go_wp2
    go_ret
    exact ⟨rfl, rfl⟩
  · have d1 : decide (12 ≤ ts) = true := by simp; omega
    have d2 : decide (ts ≤ 16) = false := by simpa using h
    go_enter Tryd.func5, Tryd.ntmps5
    go_wp2
    go_ret
    exact ⟨rfl, rfl⟩

set_option maxRecDepth 100000 in
theorem law_sizes (pw sb d0 d1 d2 d3 : Nat → Int) (A : Option Addr) (len cap : Nat) (key : List Int) (ns ts : Int) (w : World) (ht : KTabs pw sb d0 d1 d2 d3 w)
    (hr : Reads w w.heap.size 1 A len (u8s key)) (hl : key.length = len) (hkf : ∀ i, 0 ≤ nth key i ∧ nth key i ≤ 255) :
    Calls Tryd.prog 3 #[.slice A len cap, .int .i64 ns, .int .i64 ts] w fun e w' => e = .returned (.bool true) ∧ Below w.heap.size w w' := by
  by_cases hbig : 2147483647 < len
  · have hb' : 2147483647 < (len : Int) := by omega
    go_enter Tryd.func3, Tryd.ntmps3
    go_wp2
    go_ret
    exact ⟨rfl, Below.refl _ _⟩
  have hb' : ¬ 2147483647 < (len : Int) := by omega
  by_cases hkey : len = 16 ∨ len = 24 ∨ len = 32
  rotate_left
  · go_enter Tryd.func3, Tryd.ntmps3
    go_wp2_with fail
    refine (isKey_no A len cap w hkey).mono ?_
    rintro e w' ⟨rfl, rfl⟩
    go_wp2_with fail
    go_ret
    exact ⟨rfl, Below.refl _ _⟩
  by_cases htag : ts < 12 ∨ 16 < ts
  · go_enter Tryd.func3, Tryd.ntmps3
    go_wp2_with fail
    refine (isKey_yes A len cap w hkey).mono ?_
    rintro e w' ⟨rfl, rfl⟩
    go_wp2_with fail
    refine (isTag_no ts w htag).mono ?_
    rintro e w' ⟨rfl, rfl⟩
    go_wp2_with fail
    go_ret
    exact ⟨rfl, Below.refl _ _⟩
  have h3 : 12 ≤ ts := by omega
  have h4 : ts ≤ 16 := by omega
  by_cases hn1 : ns < 1
  · have hn1' : decide (ns < 1) = true := by simpa using hn1
    go_enter Tryd.func3, Tryd.ntmps3
    go_wp2_with fail
    refine (isKey_yes A len cap w hkey).mono ?_
    rintro e w' ⟨rfl, rfl⟩
    go_wp2_with fail
    refine (isTag_yes ts w h3 h4).mono ?_
    rintro e w' ⟨rfl, rfl⟩
    go_wp2_with fail
    go_ret
    exact ⟨rfl, Below.refl _ _⟩
  have hn1' : decide (ns < 1) = false := by simpa using hn1
  by_cases hn2 : 16384 < ns
  · have hn2' : decide (16384 < ns) = true := by simpa using hn2
    go_enter Tryd.func3, Tryd.ntmps3
    go_wp2_with fail
    refine (isKey_yes A len cap w hkey).mono ?_
    rintro e w' ⟨rfl, rfl⟩
    go_wp2_with fail
    refine (isTag_yes ts w h3 h4).mono ?_
    rintro e w' ⟨rfl, rfl⟩
    go_wp2_with fail
    go_ret
    exact ⟨rfl, Below.refl _ _⟩
  have hn2' : decide (16384 < ns) = false := by simpa using hn2
  obtain ⟨nk, hnk, rfl⟩ : ∃ nk, (nk = 4 ∨ nk = 6 ∨ nk = 8) ∧ len = 4 * nk := by
    rcases hkey with rfl | rfl | rfl
    · exact ⟨4, by decide, rfl⟩
    · exact ⟨6, by decide, rfl⟩
    · exact ⟨8, by decide, rfl⟩
  go_enter Tryd.func3, Tryd.ntmps3
  go_wp2_with fail
  refine (isKey_yes A _ cap w hkey).mono ?_
  rintro e w' ⟨rfl, rfl⟩
  go_wp2_with fail
  refine (isTag_yes ts w h3 h4).mono ?_
  rintro e w' ⟨rfl, rfl⟩
  go_wp2_with fail
  refine (sizes_yes pw sb d0 d1 d2 d3 A cap nk key ns ts w ht hr hkf hl hnk (by omega) (by omega) h3 h4).mono ?_
  rintro e w' ⟨rfl, hb⟩
  have e1 : (ns == ns) = true := by simp
  have e2 : (ts == ts) = true := by simp
  go_wp2_with fail
  go_ret
  exact ⟨rfl, hb⟩
end Go.Proofs.YtgjnbdpigenfjaaDoor
