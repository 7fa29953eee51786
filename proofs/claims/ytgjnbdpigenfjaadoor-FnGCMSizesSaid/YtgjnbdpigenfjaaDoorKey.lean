/-
  The contract of the key's schedule.
-/
import Derived.Test.YtgjnbdpigenfjaaDoorSched
import Derived.Test.YtgjnbdpigenfjaaDoorTail
import Derived.Handy
namespace Go.Proofs.YtgjnbdpigenfjaaDoor
open Go Go.RowKit

/-- The tables that the schedule reads, whatever they hold. -/
structure KTabs (pw sb d0 d1 d2 d3 : Nat → Int) (w : World) : Prop where
  pw : Tab .u8 255 16 pw 0 w
  sb : Tab .u8 255 256 sb 2 w
  d0 : Tab .u32 4294967295 256 d0 1 w
  d1 : Tab .u32 4294967295 256 d1 3 w
  d2 : Tab .u32 4294967295 256 d2 4 w
  d3 : Tab .u32 4294967295 256 d3 5 w

/-- The tables lie below a block. -/
def GBelow (b : Nat) : Prop := 0 < b ∧ 2 < b ∧ 1 < b ∧ 3 < b ∧ 4 < b ∧ 5 < b

theorem KTabs.gbelow {pw sb d0 d1 d2 d3 w} (h : KTabs pw sb d0 d1 d2 d3 w) : GBelow w.heap.size :=
  ⟨h.pw.lt (by omega), h.sb.lt (by omega), h.d0.lt (by omega), h.d1.lt (by omega), h.d2.lt (by omega), h.d3.lt (by omega)⟩
theorem GBelow.le {b c : Nat} (h : GBelow b) (hc : b ≤ c) : GBelow c := by
  unfold GBelow at *
  omega
theorem KTabs.below {pw sb d0 d1 d2 d3 w w' B} (h : KTabs pw sb d0 d1 d2 d3 w) (hb : Below B w w') (hg : GBelow B) : KTabs pw sb d0 d1 d2 d3 w' := by
  obtain ⟨g1, g2, g3, g4, g5, g6⟩ := hg
  exact ⟨h.pw.below hb g1, h.sb.below hb g2, h.d0.below hb g3, h.d1.below hb g4, h.d2.below hb g5, h.d3.below hb g6⟩
theorem KTabs.but {pw sb d0 d1 d2 d3 w w' b} (h : KTabs pw sb d0 d1 d2 d3 w) (hb : But b w w') (hg : GBelow b) : KTabs pw sb d0 d1 d2 d3 w' :=
  h.below (hb.below (Nat.le_refl _)) hg
theorem KTabs.drewN {pw sb d0 d1 d2 d3 w} (h : KTabs pw sb d0 d1 d2 d3 w) (n : Nat) : KTabs pw sb d0 d1 d2 d3 (w.drewN n) :=
  ⟨h.pw.drewN n, h.sb.drewN n, h.d0.drewN n, h.d1.drewN n, h.d2.drewN n, h.d3.drewN n⟩

/-- Bytes in a block. -/
structure Bytes (w : World) (b o : Nat) (l : List Int) : Prop where
  cell : ∀ i, i < l.length → w.cell? ⟨b, o + i, none⟩ = some (.int .u8 (nth l i))
  fit : ∀ i, 0 ≤ nth l i ∧ nth l i ≤ 255
theorem Bytes.get {w b o l} (h : Bytes w b o l) {i j : Nat} (hi : i < l.length) (hj : j = o + i) : w.cell? ⟨b, j, none⟩ = some (.int .u8 (nth l i)) := by rw [hj]; exact h.cell i hi
theorem Bytes.but {w w' b o l c} (h : Bytes w b o l) (hb : But c w w') (hne : b ≠ c) : Bytes w' b o l :=
  ⟨fun i hi => by rw [hb.cell (p := ⟨b, o + i, none⟩) hne]; exact h.cell i hi, h.fit⟩
theorem Bytes.drewN {w b o l} (h : Bytes w b o l) (n : Nat) : Bytes (w.drewN n) b o l := ⟨h.cell, h.fit⟩
theorem Bytes.below {w w' b o l B} (h : Bytes w b o l) (hb : Below B w w') (hlt : b < B) : Bytes w' b o l :=
  ⟨fun i hi => by rw [hb.cell (p := ⟨b, o + i, none⟩) hlt]; exact h.cell i hi, h.fit⟩
theorem i64_wrap {n : Int} (h0 : 0 ≤ n) (h1 : n ≤ 4294967296) : IntKind.i64.wrap n = n := by
  simp [IntKind.wrap, IntKind.signed, IntKind.bits]; omega

theorem enc_next {pw sb : Nat → Int} {ty : TypeId} {b k n q : Nat} {key E D : List Int} {r t v : Int} {w wr : World} (hB : But b w wr) (hW : Holds wr b ty (blk r E D))
    (hE : Hid (E = eRun pw sb key k (n - k))) (hl : 60 ≤ E.length) (hkn : k ≤ n) (hlt : n < 4 * (k + 7)) (h60 : n < 60) (ht : Hid (t = nth E (n - 1)))
    (hv : v = xorU (nth E (n - k)) (tWord pw sb k n t)) :
    ∃ n1 : Nat, k ≤ n1 ∧ n1 ≤ 4 * (k + 7) ∧ Value.int IntKind.i64 ((n : Int) + 1) = Value.int .i64 (n1 : Int) ∧ But b w ((wr.drewN q).setCell ⟨b, 1 + n, none⟩ (.int .u32 v)) ∧
      Holds ((wr.drewN q).setCell ⟨b, 1 + n, none⟩ (.int .u32 v)) b ty (blk r (eRun pw sb key k (n1 - k)) D) := by
  refine ⟨n + 1, by omega, by omega, by go_num, (hB.drewN q).setCell rfl _, ?_⟩
  rw [eRun_next _ _ _ _ _ hkn, ← hE.out, eStep, ← ht.out, ← hv]
  exact (hW.drewN q).setEnc (by omega) _

theorem tWord_turned {pw sb : Nat → Int} {k n m : Nat} (t : Int) (h : n % k = 0) (hm : Hid (m = n / k)) : tWord pw sb k n t = xorU (subU sb (rotU t)) (pw (m - 1) * 16777216) := by
  unfold tWord
  rw [if_pos h, hm.out]
theorem tWord_sub {pw sb : Nat → Int} {k n : Nat} (t : Int) (h : ¬ n % k = 0) (h' : 6 < k ∧ n % k = 4) : tWord pw sb k n t = subU sb t := by
  unfold tWord
  rw [if_neg h, if_pos h']
theorem tWord_plain {pw sb : Nat → Int} {k n : Nat} (t : Int) (h : ¬ n % k = 0) (h' : ¬ (6 < k ∧ n % k = 4)) : tWord pw sb k n t = t := by
  unfold tWord
  rw [if_neg h, if_neg h']

theorem dec_next {ty : TypeId} {b i j : Nat} {E D : List Int} {r v : Int} {w wr : World} (hB : But b w wr) (hW : Holds wr b ty (blk r E D)) (hE : E.length = 60) (hD : D.length = 60) (hDw : Words D)
    (hj : j < 4) (h0 : 0 ≤ v) (h1 : v ≤ 4294967295) :
    ∃ (j1 : Nat) (D' : List Int), j1 ≤ 4 ∧ Value.int IntKind.i64 ((j : Int) + 1) = Value.int .i64 (j1 : Int) ∧ D'.length = 60 ∧ Words D' ∧ But b w (wr.setCell ⟨b, 61 + (i + j), none⟩ (.int .u32 v)) ∧
      Holds (wr.setCell ⟨b, 61 + (i + j), none⟩ (.int .u32 v)) b ty (blk r E D') :=
  ⟨j + 1, D.set (i + j) v, by omega, by go_num, by simp [hD], hDw.set _ h0 h1, hB.setCell rfl _, hW.setDec hE _⟩

set_option maxRecDepth 100000 in
set_option maxHeartbeats 1000000 in
theorem expand_any (pw sb d0 d1 d2 d3 : Nat → Int) (ty : TypeId) (b kb cap nk : Nat) (key D : List Int) (r : Int) (w : World) (ht : KTabs pw sb d0 d1 d2 d3 w)
    (hk : Bytes w kb 0 key) (hn : key.length = 4 * nk) (hnk : nk = 4 ∨ nk = 6 ∨ nk = 8) (hH : Holds w b ty (blk r (List.replicate 60 0) D)) (hD : D.length = 60) (hDw : Words D)
    (hr1 : r ≤ nk + 6) (hr2 : nk + 6 ≤ r) (hkb : kb ≠ b) (hg : GBelow b) (hcap : 4 * nk ≤ cap) :
    Calls Tryd.prog 20 #[.pointer (some ⟨b, 0, none⟩), .slice (some ⟨kb, 0, none⟩) (4 * nk) cap] w fun e w' => e = .returned (.tuple #[]) ∧
      ∃ D', D'.length = 60 ∧ Words D' ∧ But b w w' ∧ Holds w' b ty (blk r (sched pw sb key) D') := by
  obtain ⟨gb1, gb2, gb3, gb4, gb5, gb6⟩ := hg
  have hq : (4 * nk : Nat) / 4 = nk := by omega
  have hb1 : 4 ≤ nk := by omega
  have hb2 : nk ≤ 8 := by omega
  go_enter Tryd.func20, Tryd.ntmps20
  go_wp2
  go_loopw [4] (fun i wr => ∃ k : Nat, k ≤ nk ∧ i = .int .i64 k ∧ But b w wr ∧ Holds wr b ty (blk r (eInit key k) D)) (fun i _ => nk - (intOf i).toNat)
  case atStart => exact ⟨0, Nat.zero_le _, rfl, But.refl _ _, hH⟩
  case round =>
    obtain ⟨k, hk1, rfl, hB, hW⟩ := hrel
    by_cases hlt : k < nk
    · go_wp2
      have hk' := hk.but hB hkb
      have f1 := hk'.get (i := 4 * k) (j := 4 * k) (by omega) (by omega)
      have f2 := hk'.get (i := 4 * k + 1) (j := 4 * k + 1) (by omega) (by omega)
      have f3 := hk'.get (i := 4 * k + 2) (j := 4 * k + 2) (by omega) (by omega)
      have f4 := hk'.get (i := 4 * k + 3) (j := 4 * k + 3) (by omega) (by omega)
      have e1 : IntKind.i64.wrap (4 * (k : Int)) = 4 * (k : Int) := i64_wrap (by omega) (by omega)
      have e2 : (4 * (k : Int)).toNat = 4 * k := by omega
      have e3 : 0 ≤ 4 * (k : Int) := by omega
      have e4 : 4 * (k : Int) ≤ 4 * (nk : Int) := by omega
      refine region_quiet_tail 10 (by kernel_rfl) (by kernel_rfl) ?_
      simp only [List.take_succ_cons, List.take_zero, List.drop_succ_cons, List.drop_zero]
      have e5 : ¬ cap = 4 * k := by omega
      have e6 : (k : Int) < 60 := by omega
      have hs : wr.cell? ⟨b, 1 + k, none⟩ = some (.int .u32 (nth (eInit key k) k)) := by rw [hW.cell]; exact blk_enc (by rw [eInit_len]; omega)
      have hf : wr.frozen? ⟨b, 1 + k, none⟩ = false := hW.frozen _
      repeat (quiet_step ((go_at_call 22; exact Calls.quiet_of (be_aes kb (4 * k) _ _ _ _ _ _ _ (by omega) f1 (hk.fit _).1 (hk.fit _).2 f2 (hk.fit _).1 (hk.fit _).2 f3 (hk.fit _).1 (hk.fit _).2 f4 (hk.fit _).1 (hk.fit _).2))))
      refine wpQuiet_nil ?_
      rintro _ ⟨nq, rfl⟩
      go_wp2
      go_roundw
      case rel => exact ⟨k + 1, hlt, by go_num, (hB.drewN nq).setCell rfl _, (hW.drewN nq).setEnc (by rw [eInit_len]; omega) _⟩
      case measure => simp [intOf]; omega
    · obtain rfl : k = nk := by omega
      go_wp2
      go_loopw [4] (fun i wr => ∃ n : Nat, k ≤ n ∧ n ≤ 4 * (k + 7) ∧ i = .int .i64 n ∧ But b w wr ∧ Holds wr b ty (blk r (eRun pw sb key k (n - k)) D)) (fun i _ => 4 * (k + 7) - (intOf i).toNat)
      case atStart => exact ⟨k, Nat.le_refl _, by omega, rfl, hB, by rw [Nat.sub_self]; exact hW⟩
      case round =>
        obtain ⟨n, hn1, hn2, rfl, hB2, hW2⟩ := hrel
        have hz := hW2.cell 0
        rw [blk_rounds] at hz
        by_cases hlt2 : n < 4 * (k + 7)
        · have hnn : (n : Int) < (r + 1) * 4 := by omega
          go_wp2_with fail
          refine (keysize_any b r _ hz (by omega) (by omega)).mono ?_
          rintro e w' ⟨rfl, rfl⟩
          obtain ⟨E, hE⟩ : ∃ E, E = eRun pw sb key k (n - k) := ⟨_, rfl⟩
          have hEl : 60 ≤ E.length := by rw [hE, eRun_len]; omega
          have hEw : Words E := by rw [hE]; exact eRun_words _ _ _ _ _
          rw [← hE] at hW2
          have HE := Lib.hid hE
          clear hE
          obtain ⟨t, hte⟩ : ∃ t, t = nth E (n - 1) := ⟨_, rfl⟩
          have ht0 : 0 ≤ t := by rw [hte]; exact (hEw.get _).1
          have ht1 : t ≤ 4294967295 := by rw [hte]; exact (hEw.get _).2
          have g1 : wr.cell? ⟨b, 1 + (n - 1), none⟩ = some (.int .u32 t) := by rw [hW2.cell, hte]; exact blk_enc (by omega)
          have HT := Lib.hid hte
          clear hte
          have c1 : IntKind.i64.wrap ((n : Int) - (k : Int)) = (n : Int) - (k : Int) := i64_wrap (by omega) (by omega)
          have c2 : ((n : Int) - (k : Int)).toNat = n - k := by omega
          have c3 : (n : Int) - (k : Int) < 60 := by omega
          have c4 : (n : Int) < 60 := by omega
          have c5 : wr.cell? ⟨b, 1 + (n - k), none⟩ = some (.int .u32 (nth E (n - k))) := by rw [hW2.cell]; exact blk_enc (by omega)
          have c6 : wr.cell? ⟨b, 1 + n, none⟩ = some (.int .u32 (nth E n)) := by rw [hW2.cell]; exact blk_enc (by omega)
          have c7 : wr.frozen? ⟨b, 1 + n, none⟩ = false := hW2.frozen _
          have h60 : n < 60 := by omega
          by_cases m0 : n % k = 0
          · have m1 : ((n : Int) % (k : Int) == 0) = true := by rw [beq_iff_eq]; omega
            go_wp2_with fail
            obtain ⟨m, hm⟩ : ∃ m, m = n / k := ⟨_, rfl⟩
            have hm1 : 1 ≤ m := by rw [hm]; exact (Nat.le_div_iff_mul_le (by omega)).2 (by omega)
            have hm2 : m ≤ 10 := by rcases hnk with rfl | rfl | rfl <;> omega
            have hmn : (n : Int) / (k : Int) = (m : Int) := by rw [hm]; exact (Int.natCast_ediv n k).symm
            have q1 : wr.cell? ⟨0, m - 1, none⟩ = some (.int .u8 (pw (m - 1))) := ((ht.pw.but hB2 (by omega)).cell _ (by omega))
            have q2 : 0 ≤ pw (m - 1) := ht.pw.lo _ (by omega)
            have q3 : pw (m - 1) ≤ 255 := ht.pw.hi _ (by omega)
            have q4 := ht.sb.but hB2 (by omega)
            have hk0 : ¬ k = 0 := by omega
            have hmt : (n : Int).tdiv (k : Int) = (m : Int) := by rw [Int.tdiv_eq_ediv_of_nonneg (by omega)]; exact hmn
            have hw1 : IntKind.i64.wrap (m : Int) = (m : Int) := i64_wrap (by omega) (by omega)
            have hw2 : IntKind.i64.wrap ((m : Int) - 1) = (m : Int) - 1 := i64_wrap (by omega) (by omega)
            have hw3 : 0 ≤ (m : Int) - 1 := by omega
            have hw3' : 1 ≤ (m : Int) := by omega
            have hw4 : (m : Int) - 1 < 16 := by omega
            have hw5 : ((m : Int) - 1).toNat = m - 1 := by omega
            have hw6 := wrap_u32 (y := pw (m - 1)) (by omega) (by omega)
            have hw7 := wrap_u32 (y := pw (m - 1) * 16777216) (by omega) (by omega)
            have HM := Lib.hid hm
            clear hm hmn
            refine wp_region_quiet_lit (by kernel_rfl) (by kernel_rfl) ?_
            repeat (quiet_step (first
              | (go_at_call 25; exact Calls.quiet_of_same ((rotw_any _ _ ht0 ht1).mono fun _ _ ⟨h, h'⟩ => ⟨h, h'.symm⟩))
              | (go_at_call 24; exact Calls.quiet_of (subw_any sb _ _ (q4.drewN _) (rotU_bd _).1 (rotU_bd _).2))))
            refine wpQuiet_nil ?_
            rintro _ ⟨nq, rfl⟩
            clear hw1 hw2 hw3 hw3' hw4 hw5 hw6 hw7 q1 q2 q3 q4 hmt hm1 hm2
            go_wp2_with fail
            refine region_quiet_tail 15 (by kernel_rfl) (by kernel_rfl) ?_
            simp only [List.take_succ_cons, List.take_zero, List.drop_succ_cons, List.drop_zero]
            repeat (quiet_step (fail))
            refine wpQuiet_nil ?_
            rintro _ ⟨nq2, rfl⟩
            go_wp2
            go_roundw
            case rel => exact enc_next hB2 hW2 HE hEl hn1 hlt2 h60 HT (by rw [tWord_turned t m0 HM]; rfl)
            case measure => simp [intOf]; omega
          · have m1 : ((n : Int) % (k : Int) == 0) = false := by rw [beq_eq_false_iff_ne]; omega
            by_cases m6 : 6 < k
            · have m6' : 6 < (k : Int) := by omega
              by_cases m4 : n % k = 4
              · have m4' : ((n : Int) % (k : Int) == 4) = true := by rw [beq_iff_eq]; omega
                have q4 := ht.sb.but hB2 (by omega)
                go_wp2_with fail
                refine (subw_any sb _ _ (q4.drewN 0) ht0 ht1).mono ?_
                rintro e w' ⟨rfl, nq, rfl⟩
                go_wp2_with fail
                refine region_quiet_tail 15 (by kernel_rfl) (by kernel_rfl) ?_
                simp only [List.take_succ_cons, List.take_zero, List.drop_succ_cons, List.drop_zero]
                repeat (quiet_step (fail))
                refine wpQuiet_nil ?_
                rintro _ ⟨nq2, rfl⟩
                go_wp2
                go_roundw
                case rel => exact enc_next hB2 hW2 HE hEl hn1 hlt2 h60 HT (by rw [tWord_sub t m0 ⟨m6, m4⟩]; rfl)
                case measure => simp [intOf]; omega
              · have m4' : ((n : Int) % (k : Int) == 4) = false := by rw [beq_eq_false_iff_ne]; omega
                go_wp2_with fail
                refine region_quiet_tail 15 (by kernel_rfl) (by kernel_rfl) ?_
                simp only [List.take_succ_cons, List.take_zero, List.drop_succ_cons, List.drop_zero]
                repeat (quiet_step (fail))
                refine wpQuiet_nil ?_
                rintro _ ⟨nq2, rfl⟩
                go_wp2
                go_roundw
                case rel => exact enc_next hB2 hW2 HE hEl hn1 hlt2 h60 HT (by rw [tWord_plain t m0 (fun h => m4 h.2)]; rfl)
                case measure => simp [intOf]; omega
            · have m6' : (k : Int) ≤ 6 := by omega
              go_wp2_with fail
              refine region_quiet_tail 15 (by kernel_rfl) (by kernel_rfl) ?_
              simp only [List.take_succ_cons, List.take_zero, List.drop_succ_cons, List.drop_zero]
              repeat (quiet_step (fail))
              refine wpQuiet_nil ?_
              rintro _ ⟨nq2, rfl⟩
              go_wp2
              go_roundw
              case rel => exact enc_next hB2 hW2 HE hEl hn1 hlt2 h60 HT (by rw [tWord_plain t m0 (fun h => m6 h.1)]; rfl)
              case measure => simp [intOf]; omega
        · obtain rfl : n = 4 * (k + 7) := by omega
          have hnn : ¬ ((4 * (k + 7) : Nat) : Int) < (r + 1) * 4 := by omega
          go_wp2_with fail
          refine (keysize_any b r _ hz (by omega) (by omega)).mono ?_
          rintro e w' ⟨rfl, rfl⟩
          go_wp2_with fail
          refine (keysize_any b r _ hz (by omega) (by omega)).mono ?_
          rintro e w' ⟨rfl, rfl⟩
          go_wp2_with fail
          obtain ⟨E, hE⟩ : ∃ E, E = eRun pw sb key k (4 * (k + 7) - k) := ⟨_, rfl⟩
          have hEl : E.length = 60 := by rw [hE, eRun_len]
          have hEw : Words E := by rw [hE]; exact eRun_words _ _ _ _ _
          rw [← hE] at hW2
          have HE : Hid (E = sched pw sb key) := by rw [hE, sched, hn, hq]; exact rfl
          clear hE
          obtain ⟨N, hN⟩ : ∃ N : Nat, N = 4 * (k + 7) := ⟨_, rfl⟩
          have hN1 : (r + 1) * 4 = (N : Int) := by omega
          have hN2 : N ≤ 60 := by omega
          have hN3 : N % 4 = 0 := by omega
          rw [hN1]
          clear hN hN1 hnn hlt2 hn1 hn2 hW hlt hB hk1 hz
          go_loopw [8] (fun iv wr => ∃ (i : Nat) (D' : List Int), i ≤ N ∧ i % 4 = 0 ∧ iv = .int .i64 i ∧ D'.length = 60 ∧ Words D' ∧ But b w wr ∧ Holds wr b ty (blk r E D')) (fun iv _ => N - (intOf iv).toNat)
          case atStart => exact ⟨0, D, Nat.zero_le _, rfl, rfl, hD, hDw, hB2, hW2⟩
          case round =>
            clear hB2 hW2 hD hDw hH
            obtain ⟨i, D1, hi1, hi2, rfl, hD1, hD1w, hB3, hW3⟩ := hrel
            by_cases hlt3 : i < N
            · go_wp2_with fail
              have hi4 : i + 4 ≤ N := by omega
              go_loopw [10] (fun jv wr => ∃ (j : Nat) (D' : List Int), j ≤ 4 ∧ jv = .int .i64 j ∧ D'.length = 60 ∧ Words D' ∧ But b w wr ∧ Holds wr b ty (blk r E D')) (fun jv _ => 4 - (intOf jv).toNat)
              case atStart => exact ⟨0, D1, Nat.zero_le _, rfl, hD1, hD1w, hB3, hW3⟩
              case round =>
                clear hB3 hW3 hD1 hD1w
                obtain ⟨j, D2, hj, rfl, hD2, hD2w, hB4, hW4⟩ := hrel
                by_cases hlt4 : j < 4
                · obtain ⟨x, hx⟩ : ∃ x, x = nth E (N - i - 4 + j) := ⟨_, rfl⟩
                  have hx0 : 0 ≤ x := by rw [hx]; exact (hEw.get _).1
                  have hx1 : x ≤ 4294967295 := by rw [hx]; exact (hEw.get _).2
                  have d1 : wr.cell? ⟨b, 1 + (N - i - 4 + j), none⟩ = some (.int .u32 x) := by rw [hW4.cell, hx]; exact blk_enc (by omega)
                  have HX := Lib.hid hx
                  clear hx
                  have s1 : wr.cell? ⟨b, 61 + (i + j), none⟩ = some (.int .u32 (nth D2 (i + j))) := by rw [hW4.cell]; exact blk_dec hEl (by omega)
                  have s2 : wr.frozen? ⟨b, 61 + (i + j), none⟩ = false := hW4.frozen _
                  by_cases hi0 : 0 < i
                  · have hi0' : 0 < (i : Int) := by omega
                    by_cases hi5 : i + 4 < N
                    · have hi5' : (i : Int) + 4 < (N : Int) := by omega
                      have tS := ht.sb.but hB4 (by omega)
                      have t0 := ht.d0.but hB4 (by omega)
                      have t1 := ht.d1.but hB4 (by omega)
                      have t2 := ht.d2.but hB4 (by omega)
                      have t3 := ht.d3.but hB4 (by omega)
                      have a2 := and255 (y := x / 65536) (by omega) (by omega)
                      have a3 := and255 (y := x / 256) (by omega) (by omega)
                      have a4 := and255 (y := x) (by omega) (by omega)
                      have b1 : 0 ≤ x / 16777216 := by omega
                      have b2 : x / 16777216 < 256 := by omega
                      have b3 : 0 ≤ x / 65536 % 256 := by omega
                      have b4 : x / 65536 % 256 < 256 := by omega
                      have b5 : 0 ≤ x / 256 % 256 := by omega
                      have b6 : x / 256 % 256 < 256 := by omega
                      have b7 : 0 ≤ x % 256 := by omega
                      have b8 : x % 256 < 256 := by omega
                      obtain ⟨y1, p1, p1', q1⟩ := tS.at (x / 16777216).toNat (by omega)
                      obtain ⟨y2, p2, p2', q2⟩ := tS.at (x / 65536 % 256).toNat (by omega)
                      obtain ⟨y3, p3, p3', q3⟩ := tS.at (x / 256 % 256).toNat (by omega)
                      obtain ⟨y4, p4, p4', q4⟩ := tS.at (x % 256).toNat (by omega)
                      have p1'' : y1 < 256 := by omega
                      have p2'' : y2 < 256 := by omega
                      have p3'' : y3 < 256 := by omega
                      have p4'' : y4 < 256 := by omega
                      obtain ⟨z1, _, _, u1⟩ := t0.at y1.toNat (by omega)
                      obtain ⟨z2, _, _, u2⟩ := t1.at y2.toNat (by omega)
                      obtain ⟨z3, _, _, u3⟩ := t2.at y3.toNat (by omega)
                      obtain ⟨z4, _, _, u4⟩ := t3.at y4.toNat (by omega)
                      clear tS t0 t1 t2 t3
                      go_wp2_with fail
                      go_quiet (fail)
                      go_wp2
                      go_roundw
                      case rel => exact dec_next (hB4.drewN _) (hW4.drewN _) hEl hD2 hD2w hlt4 (bits_u32 _ _ _).1 (bits_u32 _ _ _).2
                      case measure => simp [intOf]; omega
                    · have hi5' : (N : Int) ≤ (i : Int) + 4 := by omega
                      go_wp2
                      go_roundw
                      case rel => exact dec_next hB4 hW4 hEl hD2 hD2w hlt4 hx0 hx1
                      case measure => simp [intOf]; omega
                  · have hi0' : ¬ 0 < (i : Int) := by omega
                    go_wp2
                    go_roundw
                    case rel => exact dec_next hB4 hW4 hEl hD2 hD2w hlt4 hx0 hx1
                    case measure => simp [intOf]; omega
                · obtain rfl : j = 4 := by omega
                  go_wp2
                  go_roundw
                  case rel => exact ⟨i + 4, D2, hi4, by omega, by go_num, hD2, hD2w, hB4, hW4⟩
                  case measure => simp [intOf]; omega
            · obtain rfl : i = N := by omega
              go_wp2_with fail
              go_end0
              exact ⟨rfl, D1, hD1, hD1w, hB3, by rw [← HE.out]; exact hW3⟩
end Go.Proofs.YtgjnbdpigenfjaaDoor
