/-
  (StampFormat).Stamp, its loop.
-/
import Derived.Test.YbulkcwdyFmtStamp
import Derived.Deep.LoopGhost
import Derived.Deep.CutRange
namespace Go.Proofs.YbulkcwdyFmt
open Go.RowKit Go.Extern.Stop Go.Stop Go.Extern

def AllFit (P L : Int) (zp zc : List Int) (n : Nat) : Prop := ∀ j, j < n → fitB P L (zp.getD j 0) (zc.getD j 0) = true

/-- The stamp of the given process and entries, and no error. -/
def GoodEnd (proc : Int) (zp zc : List Int) (n : Nat) (w : World) (e : Ending) (w' : World) : Prop :=
  ∃ E, w.heap.size ≤ E ∧ E < w'.heap.size ∧ e = .returned (.tuple #[.agg #[.int .i64 proc, .slice (some ⟨E, 0, none⟩) n n, .pointer none, .bool false], .nilIface]) ∧
    ∀ j, j < n → w'.cell? ⟨E, j * 2, none⟩ = some (.int .u32 (zp.getD j 0)) ∧ w'.cell? ⟨E, j * 2 + 1, none⟩ = some (.int .u32 (zc.getD j 0))

/-- What Stamp's loop keeps. -/
structure Kept (bx rs : Obj) (w wr : World) (n k : Nat) (zp zc : List Int) : Prop where
  bel : Below w.heap.size w wr
  box : wr.heap[w.heap.size]? = some bx
  res : wr.heap[w.heap.size + 1]? = some rs
  ent : ∃ E : Array Value, wr.heap[w.heap.size + 2]? = some (.cells E 38 (0, 0)) ∧ E.size = 2 * n ∧ ∀ j, j < k → E[j * 2]? = some (.int .u32 (zp.getD j 0)) ∧ E[j * 2 + 1]? = some (.int .u32 (zc.getD j 0))

theorem allFit_next {P L : Int} {zp zc : List Int} {k : Nat} (h : AllFit P L zp zc k) (hk : fitB P L (zp.getD k 0) (zc.getD k 0) = true) : AllFit P L zp zc (k + 1) := by
  intro j hj
  by_cases e : j = k
  · subst e; exact hk
  · exact h j (by omega)
theorem not_allFit {P L : Int} {zp zc : List Int} {k n : Nat} (hlt : k < n) (hk : fitB P L (zp.getD k 0) (zc.getD k 0) = false) : ¬ AllFit P L zp zc n := by
  intro h; rw [h k hlt] at hk; cases hk
theorem below_undrew {w w' : World} {o : Obj} (hb : Below (w.alloc o).drew.drew.heap.size (w.alloc o).drew.drew w') : Below (w.alloc o).heap.size (w.alloc o) w' := ⟨hb.os, hb.tape, hb.output, hb.size, hb.block⟩

theorem Kept.next {bx rs o : Obj} {w wr : World} {n k : Nat} {zp zc : List Int} {y x : Int} (h : Kept bx rs w wr n k zp zc) (hy : zp.getD k 0 = y) (hx : zc.getD k 0 = x) (hk : k < n) (_u : Nat) :
    Kept bx rs w (((wr.setCell ⟨w.heap.size + 1 + 1, k * 2, none⟩ (.int .u32 y)).setCell ⟨w.heap.size + 1 + 1, k * 2 + 1, none⟩ (.int .u32 x)).alloc o).drew.drew n (k + 1) zp zc := by
  obtain ⟨E, h1, h2, h3⟩ := h.ent
  have hl := lt_of_some h1
  have hs : ∀ (a b : Value), ((wr.setCell ⟨w.heap.size + 1 + 1, k * 2, none⟩ a).setCell ⟨w.heap.size + 1 + 1, k * 2 + 1, none⟩ b).heap.size = wr.heap.size := fun a b => by simp [World.setCell]
  have hb : ∀ j, j < wr.heap.size → j ≠ w.heap.size + 2 → (((wr.setCell ⟨w.heap.size + 1 + 1, k * 2, none⟩ (.int .u32 y)).setCell ⟨w.heap.size + 1 + 1, k * 2 + 1, none⟩ (.int .u32 x)).alloc o).drew.drew.heap[j]? = wr.heap[j]? := by
    intro j hj hne
    refine (Below.heap_alloc _ _ _ (by rw [hs]; exact hj)).trans ?_
    rw [Below.heap_setCell _ _ _ _ (by simpa using hne), Below.heap_setCell _ _ _ _ (by simpa using hne)]
  refine ⟨?_, ?_, ?_, ?_⟩
  · exact ((((h.bel.setCell (by simp; omega) _).setCell (by simp; omega) _).alloc (by rw [hs]; omega) _).drew).drew
  · rw [hb _ (by omega) (by omega)]; exact h.box
  · rw [hb _ (by omega) (by omega)]; exact h.res
  · refine ⟨(E.setIfInBounds (k * 2) (.int .u32 y)).setIfInBounds (k * 2 + 1) (.int .u32 x), ?_, by simpa using h2, fun j hj => ?_⟩
    · refine (Below.heap_alloc _ _ _ (by rw [hs]; exact hl)).trans ?_
      simp [World.setCell, Array.getElem?_modify, h1]
    · by_cases e : j = k
      · subst e
        rw [hy, hx]
        constructor
        · rw [Array.getElem?_setIfInBounds_ne (by omega), Array.getElem?_setIfInBounds_self_of_lt (by omega)]
        · rw [Array.getElem?_setIfInBounds_self_of_lt (by simp; omega)]
      · have := h3 j (by omega)
        constructor
        · rw [Array.getElem?_setIfInBounds_ne (by omega), Array.getElem?_setIfInBounds_ne (by omega)]; exact this.1
        · rw [Array.getElem?_setIfInBounds_ne (by omega), Array.getElem?_setIfInBounds_ne (by omega)]; exact this.2

theorem Kept.good {bx rs : Obj} {w wr : World} {n : Nat} {zp zc : List Int} {proc : Int} (h : Kept bx rs w wr n n zp zc) (v0 v1 v2 v3 : Value) :
    GoodEnd proc zp zc n w (.returned (.tuple #[.agg #[.int .i64 proc, .slice (some ⟨w.heap.size + 1 + 1, 0, none⟩) n n, .pointer none, .bool false], .nilIface])) ((((wr.setCell ⟨w.heap.size + 1, 0, none⟩ v0).setCell ⟨w.heap.size + 1, 1, none⟩ v1).setCell ⟨w.heap.size + 1, 2, none⟩ v2).setCell ⟨w.heap.size + 1, 3, none⟩ v3) := by
  obtain ⟨E, h1, h2, h3⟩ := h.ent
  have hl := lt_of_some h1
  have hcell : ∀ i, ((((wr.setCell ⟨w.heap.size + 1, 0, none⟩ v0).setCell ⟨w.heap.size + 1, 1, none⟩ v1).setCell ⟨w.heap.size + 1, 2, none⟩ v2).setCell ⟨w.heap.size + 1, 3, none⟩ v3).cell? ⟨w.heap.size + 1 + 1, i, none⟩ = E[i]? := by
    intro i
    rw [World.cell?_setCell_other _ _ _ _ (by simp), World.cell?_setCell_other _ _ _ _ (by simp), World.cell?_setCell_other _ _ _ _ (by simp), World.cell?_setCell_other _ _ _ _ (by simp)]
    exact boxc h1 i
  refine ⟨w.heap.size + 1 + 1, by omega, by simp [World.setCell]; omega, rfl, fun j hj => ?_⟩
  rw [hcell, hcell]
  exact h3 j hj

set_option maxRecDepth 100000 in
set_option maxHeartbeats 4000000 in
theorem stamp_main (F : Interp) (n : Nat) (P L pb cb : Int) (pt : Value) (proc : Int) (bp op cp bc oc cc : Nat) (zp zc : List Int) (w : World) (hF : F.answers w.tape) (hn0 : 1 ≤ n) (hn : n ≤ 1048576) (hP0 : 1 ≤ P) (hP : P ≤ 16) (hL0 : 1 ≤ L) (hL : L ≤ 16)
    (h0 : 0 ≤ proc) (h1 : proc < n) (hbp : bp < w.heap.size) (hbc : bc < w.heap.size)
    (hzp : ∀ j, j < n → w.cell? ⟨bp, op + j, none⟩ = some (.int .i64 (zp.getD j 0))) (hzc : ∀ j, j < n → w.cell? ⟨bc, oc + j, none⟩ = some (.int .i64 (zc.getD j 0)))
    (hrp : ∀ j, j < n → -9223372036854775808 ≤ zp.getD j 0 ∧ zp.getD j 0 ≤ 9223372036854775807) (hrc : ∀ j, j < n → -9223372036854775808 ≤ zc.getD j 0 ∧ zc.getD j 0 ≤ 9223372036854775807) :
    Calls Ybaf.prog 6 #[.agg #[.int .i64 n, .int .i64 P, .int .i64 L, .int .i64 pb, .int .i64 cb, pt], .int .i64 proc, .slice (some ⟨bp, op, none⟩) n cp, .slice (some ⟨bc, oc, none⟩) n cc] w fun e w' =>
      ((AllFit P L zp zc n ∧ GoodEnd proc zp zc n w e w') ∨ (¬ AllFit P L zp zc n ∧ BadEnd e)) ∧ Below w.heap.size w w' := by
  obtain ⟨E0, hE0, hmk⟩ := mk28 n hn
  have HZP := hide hzp
  have HZC := hide hzc
  have HRP := hide hrp
  have HRC := hide hrc
  clear hzp hzc hrp hrc
  go_enter Ybaf.func6, Ybaf.ntmps6
  go_wp2_with (go_at_call 9; refine (proc_ok n proc _ h0 h1).mono ?_; rintro e w' ⟨rfl, rfl⟩)
  go_loopg [56] n (fun g ix wr => ∃ k : Nat, k ≤ n ∧ n - k ≤ g ∧ ix = .int .i64 k ∧ Hid (AllFit P L zp zc k) ∧ Kept (.cells #[.int .i64 n, .int .i64 P, .int .i64 L, .int .i64 pb, .int .i64 cb, pt] 25 (0, 0)) (.cells #[.int .i64 0, .slice none 0 0, .pointer none, .bool false] 31 (0, 0)) w wr n k zp zc)
  case atStart => exact ⟨0, Nat.zero_le _, by omega, rfl, fun j hj => absurd hj (Nat.not_lt_zero _), ((((Below.refl _ _).alloc (Nat.le_refl _) _).alloc (by simp) _).alloc (by simp; omega) _), (Below.heap_alloc _ _ _ (by simp; omega)).trans ((Below.heap_alloc _ _ _ (by simp)).trans (heap_alloc_new _ _)), (Below.heap_alloc _ _ _ (by simp)).trans (by simpa using heap_alloc_new (w.alloc (.cells #[.int .i64 n, .int .i64 P, .int .i64 L, .int .i64 pb, .int .i64 cb, pt] 25)) _), ⟨E0, by simpa using heap_alloc_new ((w.alloc (.cells #[.int .i64 n, .int .i64 P, .int .i64 L, .int .i64 pb, .int .i64 cb, pt] 25)).alloc (.cells #[.int .i64 0, .slice none 0 0, .pointer none, .bool false] 31)) (.cells E0 38), hE0, fun j hj => absurd hj (Nat.not_lt_zero _)⟩⟩
  case round =>
    obtain ⟨k, hk, hg, rfl, HA, hK⟩ := hrel
    have HK := hide hK
    have hF2 := answers_below hF hK.bel
    have k0 := boxc hK.box 0
    have k1 := boxc hK.box 1
    have k2 := boxc hK.box 2
    have k3 := boxc hK.box 3
    have k4 := boxc hK.box 4
    have k5 := boxc hK.box 5
    simp at k0 k1 k2 k3 k4 k5
    have hz1 : w.heap.size + 2 < wr.heap.size := by obtain ⟨E, h, _⟩ := hK.ent; exact lt_of_some h
    have hz2 : w.heap.size + 1 < wr.heap.size := by omega
    have hz3 : w.heap.size < wr.heap.size := by omega
    have r0 := boxc HK.out.res 0
    have r1 := boxc HK.out.res 1
    have r2 := boxc HK.out.res 2
    have r3 := boxc HK.out.res 3
    simp at r0 r1 r2 r3
    have v0 : wr.frozen? ⟨w.heap.size + 1, 0, none⟩ = false := by simp [World.frozen?, HK.out.res]
    have v1 : wr.frozen? ⟨w.heap.size + 1, 1, none⟩ = false := by simp [World.frozen?, HK.out.res]
    have v2 : wr.frozen? ⟨w.heap.size + 1, 2, none⟩ = false := by simp [World.frozen?, HK.out.res]
    have v3 : wr.frozen? ⟨w.heap.size + 1, 3, none⟩ = false := by simp [World.frozen?, HK.out.res]
    clear hmk hE0
    by_cases hlt : k < n
    · have cp1 : wr.cell? ⟨bp, op + k, none⟩ = some (.int .i64 (zp.getD k 0)) := (hK.bel.cell (p := ⟨bp, op + k, none⟩) hbp).trans (HZP.out k hlt)
      have cc1 : wr.cell? ⟨bc, oc + k, none⟩ = some (.int .i64 (zc.getD k 0)) := (hK.bel.cell (p := ⟨bc, oc + k, none⟩) hbc).trans (HZC.out k hlt)
      have hbp2 : bp < wr.heap.size := by omega
      have hbc2 : bc < wr.heap.size := by omega
      have rp := HRP.out k hlt
      have rc := HRC.out k hlt
      clear hK
      generalize hy : zp.getD k 0 = y at cp1 rp
      generalize hx : zc.getD k 0 = x at cc1 rc
      have HY := hide hy
      have HX := hide hx
      clear hy hx
      by_cases hfit : 0 ≤ y ∧ y < P ∧ 0 ≤ x ∧ x < L
      · obtain ⟨f0, f1, f2, f3⟩ := hfit
        go_upto_region 10 with fail
        go_cut [69] from 57 to 96 (fun s wx => s = .bool false ∧ wx = (wr.alloc (.cells #[.int .i64 n, .int .i64 P, .int .i64 L, .int .i64 pb, .int .i64 cb, pt] 25)).drew)
        case first =>
          go_region_with (go_at_call 11; refine (fits_yes n P L pb cb pt y x _ hP hL f0 f1 f2 f3).mono ?_; rintro e w' ⟨rfl, rfl⟩)
          all_goals
            go_wp2
            go_meet
            case rel => exact ⟨rfl, rfl⟩
        case rest =>
          obtain ⟨rfl, rfl⟩ := hcut
          obtain ⟨E, hE, hES, hEC⟩ := HK.out.ent
          have HEC := hide hEC
          have e0 : wr.cell? ⟨w.heap.size + 2, k * 2, none⟩ = some (E[k * 2]'(by omega)) := by rw [boxc hE]; simp
          have e1 : wr.cell? ⟨w.heap.size + 2, k * 2 + 1, none⟩ = some (E[k * 2 + 1]'(by omega)) := by rw [boxc hE]; simp
          have g0 : wr.frozen? ⟨w.heap.size + 2, k * 2, none⟩ = false := by simp [World.frozen?, hE]
          have g1 : wr.frozen? ⟨w.heap.size + 2, k * 2 + 1, none⟩ = false := by simp [World.frozen?, hE]
          generalize (E[k * 2]'(by omega)) = u0 at e0
          generalize (E[k * 2 + 1]'(by omega)) = u1 at e1
          have HE := hide hE
          have HES := hide hES
          clear hEC hE hES
          go_wp2
          go_region
          all_goals
            go_wp2
            go_roundg (n - (k + 1))
            case measure => omega
            case rel =>
              go_light
              exact ⟨k + 1, by omega, by omega, by go_num, allFit_next HA.out (by rw [HY.out, HX.out]; exact decide_eq_true ⟨f0, f1, f2, f3⟩), HK.out.next HY.out HX.out hlt 0⟩
      · go_upto_region 10 with fail
        go_cut [69] from 57 to 96 (fun s wx => s = .bool true ∧ wx = (wr.alloc (.cells #[.int .i64 n, .int .i64 P, .int .i64 L, .int .i64 pb, .int .i64 cb, pt] 25)).drew)
        case first =>
          go_region_with (go_at_call 11; refine (fits_no n P L pb cb pt y x _ hP0 hP hL0 hL rp.1 rp.2 rc.1 rc.2 hfit).mono ?_; rintro e w' ⟨rfl, rfl⟩)
          all_goals
            go_wp2
            go_meet
            case rel => exact ⟨rfl, rfl⟩
        case rest =>
          obtain ⟨rfl, rfl⟩ := hcut
          have HNF := hide hfit
          clear hfit
          go_wp2
          go_region_with (go_at_call 12; refine (outside_any F n P L pb cb pt k y x _ (by exact hF2) (by omega) (by omega) hP0 hP hL0 hL rp.1 rp.2).mono ?_; rintro e w' ⟨a, rfl, hb⟩; obtain ⟨hc, hf⟩ := bcell hb; simp only [World.size_alloc, World.size_drew, World.cell?_drew, World.frozen?_drew] at hc hf)
          all_goals
            go_wp2
            have hbel : Below w.heap.size w w' := HK.out.bel.trans (Below.trans (Below.alloc (Below.refl _ _) (by omega) _) (Below.mono (below_undrew hb) (by simp; omega)))
            have q : ∀ i, i < 4 → (w'.cell? ⟨w.heap.size + 1, i, none⟩).isSome = true := by
              intro i hi
              rw [hc _ _ (by omega)]
              rw [World.cell?_alloc_past _ _ _ hz2]
              obtain rfl | rfl | rfl | rfl : i = 0 ∨ i = 1 ∨ i = 2 ∨ i = 3 := by omega
              all_goals simp [r0, r1, r2, r3]
            obtain ⟨c0, c1, c2, c3⟩ := four q (.int .i64 0) (.slice none 0 0) (.pointer none) (.bool false)
            refine bodyPost_ret (v := .tuple #[.agg #[.int .i64 0, .slice none 0 0, .pointer none, .bool false], _]) (res6 _ _ (w.heap.size + 1) _ _ _ _ _ rfl rfl c0 c1 c2 c3) rfl ⟨.inr ⟨not_allFit hlt (by rw [HY.out, HX.out]; exact decide_eq_false HNF.out), ⟨_, rfl⟩⟩, ?_⟩
            exact (((hbel.setCell (by simp) _).setCell (by simp) _).setCell (by simp) _).setCell (by simp) _
    · have ekn : n = k := by omega
      subst ekn
      clear hK
      go_wp2
      have q : ∀ i, i < 4 → (wr.cell? ⟨w.heap.size + 1, i, none⟩).isSome = true := by
        intro i hi
        obtain rfl | rfl | rfl | rfl : i = 0 ∨ i = 1 ∨ i = 2 ∨ i = 3 := by omega
        all_goals simp [r0, r1, r2, r3]
      obtain ⟨c0, c1, c2, c3⟩ := four q (.int .i64 proc) (.slice (some ⟨w.heap.size + 1 + 1, 0, none⟩) n n) (.pointer none) (.bool false)
      refine bodyPost_ret (v := .tuple #[.agg #[.int .i64 proc, .slice (some ⟨w.heap.size + 1 + 1, 0, none⟩) n n, .pointer none, .bool false], .nilIface]) (res6 _ _ (w.heap.size + 1) _ _ _ _ _ rfl rfl c0 c1 c2 c3) rfl ⟨.inl ⟨HA.out, HK.out.good _ _ _ _⟩, ?_⟩
      exact (((HK.out.bel.setCell (by simp) _).setCell (by simp) _).setCell (by simp) _).setCell (by simp) _

end Go.Proofs.YbulkcwdyFmt
