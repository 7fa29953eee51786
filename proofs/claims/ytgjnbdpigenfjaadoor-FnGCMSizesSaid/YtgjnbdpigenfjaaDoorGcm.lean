/-
  The contracts of the making of GCM and of what it tells of its sizes.
-/
import Derived.Test.YtgjnbdpigenfjaaDoorCopied
namespace Go.Proofs.YtgjnbdpigenfjaaDoor
open Go Go.RowKit

/-- The cells of a GCM: its cipher's, its two sizes. -/
def gcmCells (r : Int) (E D : List Int) (ns ts : Int) : List Value := blk r E D ++ [.int .i64 ns, .int .i64 ts]
def zeroGcm : List Value := gcmCells 0 (List.replicate 60 0) (List.replicate 60 0) 0 0
theorem zero_gcm (w : World) : (zeroValue 51).run Tryd.prog w = .ok (.agg zeroGcm.toArray) w := by kernel_rfl

theorem holds_setCells {g : Nat} {ty : TypeId} : ∀ (vs xs pre ys : List Value) (w : World), Holds w g ty (pre ++ xs ++ ys) → xs.length = vs.length → Holds (w.setCells g pre.length vs) g ty (pre ++ vs ++ ys)
  | [], xs, pre, ys, w, h, hl => by
    obtain rfl := List.eq_nil_of_length_eq_zero hl
    exact h
  | v :: vs, [], pre, ys, w, h, hl => by cases hl
  | v :: vs, x :: xs, pre, ys, w, h, hl => by
    have h1 := h.setCell pre.length v
    have e : (pre ++ x :: xs ++ ys).set pre.length v = (pre ++ [v]) ++ xs ++ ys := by simp
    rw [e] at h1
    have := holds_setCells vs xs (pre ++ [v]) ys _ h1 (by simpa using hl)
    simpa [World.setCells] using this

theorem but_setCells {g : Nat} : ∀ (vs : List Value) (o : Nat) (w : World), But g w (w.setCells g o vs)
  | [], _, _ => But.refl _ _
  | v :: vs, o, w => ((But.refl g w).setCell rfl v).trans (but_setCells vs (o + 1) _)

theorem there_of {w : World} {g : Nat} {ty : TypeId} {cs : List Value} (h : Holds w g ty cs) {n : Nat} (hn : n ≤ cs.length) : w.there g 0 n := fun j hj => by
  refine ⟨?_, h.frozen _⟩
  rw [h.cell, List.getElem?_eq_getElem (by omega)]
  rfl

theorem blk_one {r : Int} {E D : List Int} : ∀ v ∈ blk r E D, v.oneCell' = true := by
  intro v hv
  simp only [blk, u32s, List.mem_cons, List.mem_append, List.mem_map] at hv
  rcases hv with rfl | ⟨n, _, rfl⟩ | ⟨n, _, rfl⟩ <;> rfl

theorem gcm_stored {g : Nat} {ty : TypeId} {r : Int} {E D : List Int} {w : World} (h : Holds w g ty zeroGcm) (hE : E.length = 60) (hD : D.length = 60) :
    Holds (w.setCells g 0 (blk r E D).toArray.toList) g ty (gcmCells r E D 0 0) :=
  holds_setCells (blk r E D) (blk 0 (List.replicate 60 0) (List.replicate 60 0)) [] [.int .i64 0, .int .i64 0] w h (by simp [blk_len, hE, hD])
theorem gcm_ns {r ns ts : Int} {E D : List Int} (hE : E.length = 60) (hD : D.length = 60) : (gcmCells r E D ns ts)[121]? = some (.int .i64 ns) := by
  simp [gcmCells, blk_len, hE, hD]
theorem gcm_ts {r ns ts : Int} {E D : List Int} (hE : E.length = 60) (hD : D.length = 60) : (gcmCells r E D ns ts)[122]? = some (.int .i64 ts) := by
  simp [gcmCells, blk_len, hE, hD]
theorem gcm_sizes {g : Nat} {ty : TypeId} {r a b ns ts : Int} {E D : List Int} {w : World} (h : Holds w g ty (gcmCells r E D a b)) (hE : E.length = 60) (hD : D.length = 60) :
    Holds ((w.setCell ⟨g, 121, none⟩ (.int .i64 ns)).setCell ⟨g, 122, none⟩ (.int .i64 ts)) g ty (gcmCells r E D ns ts) := by
  have := (h.setCell 121 (.int .i64 ns)).setCell 122 (.int .i64 ts)
  simpa [gcmCells, List.set_append, blk_len, hE, hD] using this

theorem blocksize_any (b : Nat) (w : World) :
    Calls Tryd.prog 17 #[.pointer (some ⟨b, 0, none⟩)] w fun e w' => e = .returned (.int .i64 16) ∧ w = w' := by
  go_enter Tryd.func17, Tryd.ntmps17
  go_wp2
  go_ret
  exact ⟨rfl, rfl⟩

theorem initgcm_any (g : Nat) (w : World) :
    Calls Tryd.prog 18 #[.pointer (some ⟨g, 0, none⟩)] w fun e w' => e = .returned (.tuple #[]) ∧ w = w' := by
  go_enter Tryd.func18, Tryd.ntmps18
  go_wp2
  go_end0
  exact ⟨rfl, rfl⟩

set_option maxRecDepth 100000 in
theorem newGCM_yes (b g : Nat) (r ns ts : Int) (E D : List Int) (w : World) (hE : E.length = 60) (hD : D.length = 60) (hb : Holds w b 47 (blk r E D)) (hg : Holds w g 51 zeroGcm) (_hne : b ≠ g)
    (h1 : 1 ≤ ns) (h2 : ns ≤ 4294967296) (h3 : 12 ≤ ts) (h4 : ts ≤ 16) :
    Calls Tryd.prog 14 #[.pointer (some ⟨g, 0, none⟩), .pointer (some ⟨b, 0, none⟩), .int .i64 ns, .int .i64 ts] w fun e w' => e = .returned (.tuple #[.pointer (some ⟨g, 0, none⟩), .nilIface]) ∧
      But g w w' ∧ Holds w' g 51 (gcmCells r E D ns ts) := by
  have hr : w.rangeAt b 0 (blk r E D) := fun j v hv => by rw [hb.cell, Nat.zero_add]; exact hv
  have hi : (Tryd.prog.info? 47).map (·.size) = some (blk r E D).length := by rw [blk_len, hE, hD]; kernel_rfl
  have ht : w.there g 0 (blk r E D).toArray.size := there_of hg (by simp [zeroGcm, gcmCells, blk_len, hE, hD])
  have hi' : (Tryd.prog.info? 47).map (·.size) = some (blk r E D).toArray.size := by simpa using hi
  have ho : (blk r E D).toArray.all (·.oneCell') = true := all_oneCell_toArray blk_one
  have Hr := Lib.hid hr
  have Hi := Lib.hid hi
  have Ht := Lib.hid ht
  have Hi' := Lib.hid hi'
  have Ho := Lib.hid ho
  clear hr hi ht hi' ho
  go_enter Tryd.func14, Tryd.ntmps14
  go_wp2_with fail
  refine (blocksize_any b _).mono ?_
  rintro e w' ⟨rfl, rfl⟩
  go_wp2_with (first
    | (refine wpList_load_mid rfl 47 (.tmp 26) rfl b 0 rfl (blk r E D) _ Hr.out Tryd.underlying47 rfl Hi.out ?_)
    | (refine wpList_store_mid rfl 47 (.tmp 29) (.tmp 27) rfl g 0 (blk r E D).toArray rfl rfl Ht.out Hi'.out Ho.out ?_
       obtain ⟨w1, hw1⟩ : ∃ w1, w.setCells g 0 (blk r E D).toArray.toList = w1 := ⟨_, rfl⟩
       rw [hw1]
       have hB1 : But g w w1 := by rw [← hw1]; exact but_setCells _ _ _
       have hH1 : Holds w1 g 51 (gcmCells r E D 0 0) := by rw [← hw1]; exact gcm_stored hg hE hD
       clear hw1
       have c1 : w1.cell? ⟨g, 121, none⟩ = some (.int .i64 0) := by rw [hH1.cell]; exact gcm_ns hE hD
       have c2 : w1.cell? ⟨g, 122, none⟩ = some (.int .i64 0) := by rw [hH1.cell]; exact gcm_ts hE hD
       have c3 : w1.frozen? ⟨g, 121, none⟩ = false := hH1.frozen _
       have c4 : w1.frozen? ⟨g, 122, none⟩ = false := hH1.frozen _))
  refine (initgcm_any g _).mono ?_
  rintro e w' ⟨rfl, rfl⟩
  go_wp2_with fail
  go_ret2
  exact ⟨rfl, (hB1.setCell rfl _).setCell rfl _, gcm_sizes hH1 hE hD⟩

set_option maxRecDepth 100000 in
theorem gcmNew_yes (b : Nat) (r ns ts : Int) (E D : List Int) (w : World) (hE : E.length = 60) (hD : D.length = 60) (hb : Holds w b 47 (blk r E D))
    (h1 : 1 ≤ ns) (h2 : ns ≤ 4294967296) (h3 : 12 ≤ ts) (h4 : ts ≤ 16) :
    Calls Tryd.prog 12 #[.pointer (some ⟨b, 0, none⟩), .int .i64 ns, .int .i64 ts] w fun e w' => e = .returned (.tuple #[.pointer (some ⟨w.heap.size, 0, none⟩), .nilIface]) ∧
      Below w.heap.size w w' ∧ w'.heap.size = w.heap.size + 1 ∧ Holds w' w.heap.size 51 (gcmCells r E D ns ts) := by
  have hz := zero_gcm
  have hb0 : Below w.heap.size w (w.alloc (.cells zeroGcm.toArray 51)) := (Below.refl _ _).alloc (Nat.le_refl _) _
  have hlt := hb.lt
  go_enter Tryd.func12, Tryd.ntmps12
  go_wp2_with fail
  refine (newGCM_yes b w.heap.size r ns ts E D _ hE hD (hb.below hb0 hlt) (Holds.new w _ _) (by omega) h1 h2 h3 h4).mono ?_
  rintro e w' ⟨rfl, k1, k2⟩
  go_wp2_with fail
  go_ret2
  exact ⟨rfl, hb0.trans (k1.below (Nat.le_refl _)), by rw [k1.size]; simp, k2⟩

set_option maxRecDepth 100000 in
theorem implGCM_yes (pw sb d0 d1 d2 d3 : Nat → Int) (A : Option Addr) (cap nk : Nat) (key : List Int) (ns ts : Int) (w : World) (ht : KTabs pw sb d0 d1 d2 d3 w)
    (hr : Reads w w.heap.size 1 A (4 * nk) (u8s key)) (hkf : ∀ i, 0 ≤ nth key i ∧ nth key i ≤ 255) (hn : key.length = 4 * nk) (hnk : nk = 4 ∨ nk = 6 ∨ nk = 8)
    (h1 : 1 ≤ ns) (h2 : ns ≤ 4294967296) (h3 : 12 ≤ ts) (h4 : ts ≤ 16) :
    Calls Tryd.prog 7 #[.slice A (4 * nk) cap, .int .i64 ns, .int .i64 ts] w fun e w' => ∃ g, e = .returned (.tuple #[.pointer (some ⟨g, 0, none⟩), .bool true]) ∧
      ∃ D, D.length = 60 ∧ Below w.heap.size w w' ∧ w.heap.size ≤ g ∧ Holds w' g 51 (gcmCells (nk + 6 : Nat) (sched pw sb key) D ns ts) := by
  go_enter Tryd.func7, Tryd.ntmps7
  go_wp2_with fail
  refine (copied_any A (4 * nk) cap (u8s key) w hr (u8s_one _) (by omega)).mono ?_
  rintro e w1 ⟨v, rfl, hown, hb1⟩
  rw [← hn] at hown
  obtain ⟨kb, kcap, rfl, hkb, hkl, hkc, hkB⟩ := bytes_of_own hown (by omega) hkf
  rw [hn] at hkc ⊢
  go_wp2_with fail
  refine (new_any pw sb d0 d1 d2 d3 kb kcap nk key _ (ht.below hb1 ht.gbelow) hkB hn hnk hkl hkc).mono ?_
  rintro e w2 ⟨rfl, D, hD, _, hb2, hs2, hH2⟩
  go_wp2_with fail
  refine (gcmNew_yes w1.heap.size _ ns ts (sched pw sb key) D _ (sched_len _ _ _) hD hH2 h1 h2 h3 h4).mono ?_
  rintro e w3 ⟨rfl, hb3, hs3, hH3⟩
  go_wp2_with fail
  go_quiet (fail)
  go_wp2_with fail
  go_ret2
  have hs1 := hb1.size
  have hs2' := hb2.size
  rw [hs2] at hH3
  exact ⟨w1.heap.size + 1, rfl, D, hD, (hb1.trans (hb2.mono hs1)).trans ((hb3.mono (by omega)).trans ⟨rfl, rfl, rfl, Nat.le_refl _, fun _ _ => rfl⟩), by omega, hH3⟩

theorem noncesize_any (g : Nat) (r ns ts : Int) (E D : List Int) (w : World) (hE : E.length = 60) (hD : D.length = 60) (hg : Holds w g 51 (gcmCells r E D ns ts)) :
    Calls Tryd.prog 8 #[.pointer (some ⟨g, 0, none⟩)] w fun e w' => e = .returned (.int .i64 ns) ∧ w = w' := by
  have c1 : w.cell? ⟨g, 121, none⟩ = some (.int .i64 ns) := by rw [hg.cell]; exact gcm_ns hE hD
  go_enter Tryd.func8, Tryd.ntmps8
  go_wp2
  go_ret
  exact ⟨rfl, rfl⟩

theorem overhead_any (g : Nat) (r ns ts : Int) (E D : List Int) (w : World) (hE : E.length = 60) (hD : D.length = 60) (hg : Holds w g 51 (gcmCells r E D ns ts)) :
    Calls Tryd.prog 9 #[.pointer (some ⟨g, 0, none⟩)] w fun e w' => e = .returned (.int .i64 ts) ∧ w = w' := by
  have c1 : w.cell? ⟨g, 122, none⟩ = some (.int .i64 ts) := by rw [hg.cell]; exact gcm_ts hE hD
  go_enter Tryd.func9, Tryd.ntmps9
  go_wp2
  go_ret
  exact ⟨rfl, rfl⟩

set_option maxRecDepth 100000 in
theorem sizes_yes (pw sb d0 d1 d2 d3 : Nat → Int) (A : Option Addr) (cap nk : Nat) (key : List Int) (ns ts : Int) (w : World) (ht : KTabs pw sb d0 d1 d2 d3 w)
    (hr : Reads w w.heap.size 1 A (4 * nk) (u8s key)) (hkf : ∀ i, 0 ≤ nth key i ∧ nth key i ≤ 255) (hn : key.length = 4 * nk) (hnk : nk = 4 ∨ nk = 6 ∨ nk = 8)
    (h1 : 1 ≤ ns) (h2 : ns ≤ 4294967296) (h3 : 12 ≤ ts) (h4 : ts ≤ 16) :
    Calls Tryd.prog 6 #[.slice A (4 * nk) cap, .int .i64 ns, .int .i64 ts] w fun e w' => e = .returned (.tuple #[.int .i64 ns, .int .i64 ts, .bool true]) ∧ Below w.heap.size w w' := by
  go_enter Tryd.func6, Tryd.ntmps6
  go_wp2_with fail
  refine (implGCM_yes pw sb d0 d1 d2 d3 A cap nk key ns ts w ht hr hkf hn hnk h1 h2 h3 h4).mono ?_
  rintro e w1 ⟨g, rfl, D, hD, hb, _, hH⟩
  go_wp2_with fail
  refine (noncesize_any g _ ns ts _ D _ (sched_len _ _ _) hD hH).mono ?_
  rintro e w2 ⟨rfl, rfl⟩
  go_wp2_with fail
  refine (overhead_any g _ ns ts _ D _ (sched_len _ _ _) hD hH).mono ?_
  rintro e w2 ⟨rfl, rfl⟩
  go_wp2_with fail
  go_ret3
  exact ⟨rfl, hb⟩
end Go.Proofs.YtgjnbdpigenfjaaDoor
