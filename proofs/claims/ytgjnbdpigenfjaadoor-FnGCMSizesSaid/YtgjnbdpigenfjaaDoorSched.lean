/-
  The words of a key's schedule, by whatever tables: plain lists.
-/
import Derived.Test.YtgjnbdpigenfjaaDoorLeaf
namespace Go.Proofs.YtgjnbdpigenfjaaDoor
open Go Go.RowKit

/-- The first words: those of the key. -/
def eInit (key : List Int) : Nat → List Int
  | 0 => List.replicate 60 0
  | i + 1 => (eInit key i).set i (be4 (nth key (4 * i)) (nth key (4 * i + 1)) (nth key (4 * i + 2)) (nth key (4 * i + 3)))

/-- What is added to a word: the one ahead, turned and substituted at some places. -/
def tWord (pw sb : Nat → Int) (nk i : Nat) (t : Int) : Int :=
  if i % nk = 0 then xorU (subU sb (rotU t)) (pw (i / nk - 1) * 16777216) else if 6 < nk ∧ i % nk = 4 then subU sb t else t

/-- One word more. -/
def eStep (pw sb : Nat → Int) (nk i : Nat) (E : List Int) : List Int := E.set i (xorU (nth E (i - nk)) (tWord pw sb nk i (nth E (i - 1))))

/-- The words behind them, j of them. -/
def eRun (pw sb : Nat → Int) (key : List Int) (nk : Nat) : Nat → List Int
  | 0 => eInit key nk
  | j + 1 => eStep pw sb nk (nk + j) (eRun pw sb key nk j)

theorem eRun_next (pw sb : Nat → Int) (key : List Int) (nk i : Nat) (h : nk ≤ i) : eRun pw sb key nk (i + 1 - nk) = eStep pw sb nk i (eRun pw sb key nk (i - nk)) := by
  rw [show i + 1 - nk = (i - nk) + 1 by omega]
  show eStep pw sb nk (nk + (i - nk)) _ = _
  rw [show nk + (i - nk) = i by omega]

theorem eInit_len (key : List Int) : ∀ i, (eInit key i).length = 60
  | 0 => by simp [eInit]
  | i + 1 => by simp [eInit, eInit_len key i]
theorem eInit_words (key : List Int) : ∀ i, Words (eInit key i)
  | 0 => Words.zero _
  | i + 1 => (eInit_words key i).set i (be4_bd _ _ _ _).1 (be4_bd _ _ _ _).2
theorem eRun_len (pw sb : Nat → Int) (key : List Int) (nk : Nat) : ∀ j, (eRun pw sb key nk j).length = 60
  | 0 => eInit_len _ _
  | j + 1 => by simp [eRun, eStep, eRun_len pw sb key nk j]
theorem eRun_words (pw sb : Nat → Int) (key : List Int) (nk : Nat) : ∀ j, Words (eRun pw sb key nk j)
  | 0 => eInit_words _ _
  | j + 1 => (eRun_words pw sb key nk j).set _ (xorU_bd _ _).1 (xorU_bd _ _).2

/-- The schedule's words of a key. -/
def sched (pw sb : Nat → Int) (key : List Int) : List Int := eRun pw sb key (key.length / 4) (4 * (key.length / 4 + 7) - key.length / 4)
theorem sched_len (pw sb : Nat → Int) (key : List Int) : (sched pw sb key).length = 60 := eRun_len _ _ _ _ _
theorem sched_words (pw sb : Nat → Int) (key : List Int) : Words (sched pw sb key) := eRun_words _ _ _ _ _
end Go.Proofs.YtgjnbdpigenfjaaDoor
