/-
  (StampFormat).decodeFields over one byte and two entries of a table's block.
-/
import Derived.Test.YbulkcwdyFmtSmall
import Derived.Deep.Light
namespace Go.Proofs.YbulkcwdyFmt
open Go.RowKit Go.Extern.Stop Go.Stop Go.Extern

/-- Whether a phase and a counter lie below their bounds. -/
def fitB (P L ph ct : Int) : Bool := decide (0 ≤ ph ∧ ph < P ∧ 0 ≤ ct ∧ ct < L)

theorem fits_any (pr P L pb cb : Int) (pt : Value) (ph ct : Int) (w : World) (hP0 : 1 ≤ P) (hP : P ≤ 16) (hL0 : 1 ≤ L) (hL : L ≤ 16) (hp : -9223372036854775808 ≤ ph ∧ ph ≤ 9223372036854775807) (hc : -9223372036854775808 ≤ ct ∧ ct ≤ 9223372036854775807) :
    Calls Ybaf.prog 11 #[.agg #[.int .i64 pr, .int .i64 P, .int .i64 L, .int .i64 pb, .int .i64 cb, pt], .int .i64 ph, .int .i64 ct] w fun e w' => e = .returned (.bool (fitB P L ph ct)) ∧ w' = w.alloc (.cells #[.int .i64 pr, .int .i64 P, .int .i64 L, .int .i64 pb, .int .i64 cb, pt] 25) := by
  by_cases h : 0 ≤ ph ∧ ph < P ∧ 0 ≤ ct ∧ ct < L
  · rw [show fitB P L ph ct = true from decide_eq_true h]
    exact fits_yes pr P L pb cb pt ph ct w hP hL h.1 h.2.1 h.2.2.1 h.2.2.2
  · rw [show fitB P L ph ct = false from decide_eq_false h]
    exact fits_no pr P L pb cb pt ph ct w hP0 hP hL0 hL hp.1 hp.2 hc.1 hc.2 h

/-- Block T is a table's block of n cells, free to be written. -/
def Tab (T n : Nat) (w : World) : Prop := ∃ c : Array Value, w.heap[T]? = some (.cells c 55 (0, 0)) ∧ c.size = n
/-- New blocks, and writes into the table's block alone. -/
structure KeptT (T n : Nat) (w w' : World) : Prop where
  gb : w.grownBy w' (some T)
  tab : Tab T n w → Tab T n w'

theorem Tab.cell {T n : Nat} {w : World} (h : Tab T n w) (i : Nat) (hi : i < n) : ∃ v, w.cell? ⟨T, i, none⟩ = some v := by
  obtain ⟨c, h1, h2⟩ := h
  exact ⟨c[i], by simp [World.cell?, h1, h2, hi]⟩
theorem Tab.free {T n : Nat} {w : World} (h : Tab T n w) (i : Nat) : w.frozen? ⟨T, i, none⟩ = false := by
  obtain ⟨c, h1, h2⟩ := h
  simp [World.frozen?, h1]

open Go.Op in
theorem a63_0 : bits .and .u64 0 63 = 0 := by decide
open Go.Op in
theorem a63_1 : bits .and .u64 1 63 = 1 := by decide
open Go.Op in
theorem a63_2 : bits .and .u64 2 63 = 2 := by decide
open Go.Op in
theorem a63_3 : bits .and .u64 3 63 = 3 := by decide
open Go.Op in
theorem a63_4 : bits .and .u64 4 63 = 4 := by decide
open Go.Op in
theorem a63_5 : bits .and .u64 5 63 = 5 := by decide
open Go.Op in
theorem a63_6 : bits .and .u64 6 63 = 6 := by decide
open Go.Op in
theorem a63_7 : bits .and .u64 7 63 = 7 := by decide
open Go.Op in
theorem a63_8 : bits .and .u64 8 63 = 8 := by decide
open Go.Op in
theorem and_nought (X : Int) : bits .and .u64 X 0 = 0 := by simp [bits]; decide
attribute [local go_sem] a63_0 a63_1 a63_2 a63_3 a63_4 a63_5 a63_6 a63_7 a63_8 and_nought

/-- What decodeFields hands back: no error, or a new one. -/
def DecEnd (e : Ending) : Prop := e = .returned .nilIface ∨ ∃ a, e = .returned (.iface 66 (.pointer (some a)))
theorem KeptT.start (T n : Nat) (w : World) (o : Obj) (q : Nat) : KeptT T n w ((w.alloc o).drewN q) :=
  ⟨⟨rfl, rfl, rfl, by simp, fun k hk _ => Below.heap_alloc w o k hk⟩, fun ⟨c, h1, h2⟩ => ⟨c, by
    have : T < w.heap.size := by
      apply Classical.byContradiction; intro hn
      rw [Array.getElem?_eq_none (by omega)] at h1; cases h1
    exact (Below.heap_alloc w o T this).trans h1, h2⟩⟩
theorem box_start (w : World) (o : Obj) (q : Nat) : ((w.alloc o).drewN q).heap[w.heap.size]? = some o := heap_alloc_new w o
theorem KeptT.answers {F : Interp} {T n : Nat} {w w' : World} (h : KeptT T n w w') (hF : F.answers w.tape) : F.answers w'.tape := by rw [h.gb.tape]; exact hF
theorem KeptT.cellAt {T n : Nat} {w w' : World} (h : KeptT T n w w') {b i : Nat} (hb : b < w.heap.size) (hne : b ≠ T) : w'.cell? ⟨b, i, none⟩ = w.cell? ⟨b, i, none⟩ :=
  World.cell?_of_block (h.gb.block b hb (by simpa using hne))
theorem boxc {w : World} {b : Nat} {cs : Array Value} {t : TypeId} {fr : Nat × Nat} (h : w.heap[b]? = some (.cells cs t fr)) (i : Nat) : w.cell? ⟨b, i, none⟩ = cs[i]? := by
  simp [World.cell?, h]
theorem lt_of_some {w : World} {b : Nat} {o : Obj} (h : w.heap[b]? = some o) : b < w.heap.size := by
  apply Classical.byContradiction; intro hn
  rw [Array.getElem?_eq_none (by omega)] at h; cases h

theorem w64_bd (x : Int) : -9223372036854775808 ≤ wrap64 x ∧ wrap64 x ≤ 9223372036854775807 := by unfold wrap64; omega

theorem KeptT.setCell {T n : Nat} {w wr : World} (h : KeptT T n w wr) (i : Nat) (v : Value) : KeptT T n w (wr.setCell ⟨T, i, none⟩ v) := by
  refine ⟨⟨h.gb.os, h.gb.tape, h.gb.output, by simpa [World.setCell] using h.gb.size, fun k hk hne => ?_⟩, fun ht => ?_⟩
  · rw [Below.heap_setCell _ _ _ _ (by intro e; exact hne (by rw [e]))]; exact h.gb.block k hk hne
  · obtain ⟨c, h1, h2⟩ := h.tab ht
    refine ⟨c.setIfInBounds i v, ?_, by simpa using h2⟩
    simp [World.setCell, Array.getElem?_modify, h1]
theorem KeptT.alloc {T n : Nat} {w wr : World} (h : KeptT T n w wr) (o : Obj) : KeptT T n w (wr.alloc o) := by
  refine ⟨⟨h.gb.os, h.gb.tape, h.gb.output, by have := h.gb.size; simp; omega, fun k hk hne => ?_⟩, fun ht => ?_⟩
  · rw [Below.heap_alloc _ _ _ (by have := h.gb.size; omega)]; exact h.gb.block k hk hne
  · obtain ⟨c, h1, h2⟩ := h.tab ht
    exact ⟨c, (Below.heap_alloc _ _ _ (lt_of_some h1)).trans h1, h2⟩
theorem KeptT.below {T n : Nat} {w wr w' : World} (h : KeptT T n w wr) (hb : Below wr.heap.size wr w') : KeptT T n w w' := by
  refine ⟨⟨hb.os.trans h.gb.os, hb.tape.trans h.gb.tape, hb.output.trans h.gb.output, Nat.le_trans h.gb.size hb.size, fun k hk hne => ?_⟩, fun ht => ?_⟩
  · rw [hb.block k (by have := h.gb.size; omega)]; exact h.gb.block k hk hne
  · obtain ⟨c, h1, h2⟩ := h.tab ht
    exact ⟨c, (hb.block T (lt_of_some h1)).trans h1, h2⟩
theorem box_kept {wr : World} {T i j : Nat} {u v : Value} {B : Nat} {o o' : Obj} (h : wr.heap[B]? = some o) (hne : B ≠ T) : (((wr.setCell ⟨T, i, none⟩ u).setCell ⟨T, j, none⟩ v).alloc o').heap[B]? = some o := by
  have hl := lt_of_some h
  rw [Below.heap_alloc _ _ _ (by simpa [World.setCell] using hl), Below.heap_setCell _ _ _ _ hne, Below.heap_setCell _ _ _ _ hne]
  exact h

set_option maxRecDepth 100000 in
set_option maxHeartbeats 4000000 in
theorem dec0 (F : Interp) (pr P L : Int) (pt : Value) (bb T n off : Nat) (v : Int) (w : World) (hF : F.answers w.tape) (hr0 : 1 ≤ pr) (hr : pr ≤ 1048576) (hP0 : 1 ≤ P) (hP : P ≤ 16) (hL0 : 1 ≤ L) (hL : L ≤ 16)
    (hv : w.cell? ⟨bb, 0, none⟩ = some (.int .u8 v)) (hv0 : 0 ≤ v) (hv1 : v ≤ 255) (hbb : bb < w.heap.size) (hT : T < w.heap.size) (hne : bb ≠ T) (ht : Tab T n w) (hoff : off + 4 ≤ n) :
    Calls Ybaf.prog 20 #[.agg #[.int .i64 pr, .int .i64 P, .int .i64 L, .int .i64 0, .int .i64 4, pt], .slice (some ⟨bb, 0, none⟩) 1 1, .slice (some ⟨T, off, none⟩) 2 2] w fun e w' =>
      DecEnd e ∧ KeptT T n w w' := by
  have HT : Hid (Tab T n w) := ht
  clear ht
  go_enter Ybaf.func20, Ybaf.ntmps20
  go_wp2
  go_quiet (fail)
  go_wp2
  go_loopw [7, 8, 13, 31] (fun acc nn nx ix wr => ∃ (p : Nat) (X : Int), ix = .int .i64 p ∧ acc = .int .u64 X ∧ ((p = 0 ∧ nn = .int .u64 0 ∧ nx = .int .i64 0) ∨ (p = 1 ∧ nn = .int .u64 4 ∧ nx = .int .i64 1) ∨ (p = 2 ∧ nn = .int .u64 0 ∧ nx = .int .i64 1)) ∧ KeptT T n w wr ∧ wr.heap[w.heap.size]? = some (.cells #[.int .i64 pr, .int .i64 P, .int .i64 L, .int .i64 0, .int .i64 4, pt] 25 (0, 0))) (fun _ _ _ ix _ => 2 - (intOf ix).toNat)
  case atStart => exact ⟨0, 0, rfl, rfl, .inl ⟨rfl, rfl, rfl⟩, KeptT.start _ _ _ _ _, box_start _ _ _⟩
  case round =>
    obtain ⟨p, X, rfl, rfl, hp, hK, hbox⟩ := hrel
    have HK := hide hK
    have hF2 := hK.answers hF
    have hT2 := hK.tab HT.out
    have hv2 : wr.cell? ⟨bb, 0, none⟩ = some (.int .u8 v) := (hK.cellAt hbb hne).trans hv
    have k0 := boxc hbox 0
    have k1 := boxc hbox 1
    have k2 := boxc hbox 2
    have k3 := boxc hbox 3
    have k4 := boxc hbox 4
    have k5 := boxc hbox 5
    simp at k0 k1 k2 k3 k4 k5
    have hz := hK.gb.size
    have hz2 : w.heap.size < wr.heap.size := lt_of_some hbox
    have HB := hide hbox
    have HT2 := hide hT2
    clear hK hbox hT2 hv
    have hTw : T < wr.heap.size := by omega
    obtain ⟨x0, hx0⟩ := HT2.out.cell off (by omega)
    obtain ⟨x1, hx1⟩ := HT2.out.cell (off + 1) (by omega)
    obtain ⟨x2, hx2⟩ := HT2.out.cell (off + 2) (by omega)
    obtain ⟨x3, hx3⟩ := HT2.out.cell (off + 3) (by omega)
    have f0 := HT2.out.free off
    have f1 := HT2.out.free (off + 1)
    have f2 := HT2.out.free (off + 2)
    have f3 := HT2.out.free (off + 3)
    rcases hp with ⟨rfl, rfl, rfl⟩ | ⟨rfl, rfl, rfl⟩ | ⟨rfl, rfl, rfl⟩
    rotate_left 2
    · go_wp2
      go_ret
      exact ⟨.inl rfl, HK.out⟩
    · go_wp2
      refine wp_loop_rounds 2 ?_
      rw [rounds_succ]
      go_wp2
      try (rw [rounds_succ]; go_wp2)
      refine wp_loop_rounds 2 ?_
      rw [rounds_succ]
      go_wp2_with fail
      try (rw [rounds_succ]; go_wp2_with fail)
      refine (fits_any pr P L _ _ pt _ _ _ hP0 hP hL0 hL (by first | exact w64_bd _ | omega) (by first | exact w64_bd _ | omega)).mono ?_
      rintro e w' ⟨rfl, rfl⟩
      generalize fitB P L _ _ = fb
      cases fb with
      | false =>
        go_wp2_with (go_at_call 12; refine (outside_any F pr P L _ _ pt _ _ _ _ (by exact hF2) hr0 hr hP0 hP hL0 hL (by first | exact (w64_bd _).1 | omega) (by first | exact (w64_bd _).2 | omega)).mono ?_; rintro e w' ⟨a, rfl, hb⟩)
        go_ret
        exact ⟨.inr ⟨a, rfl⟩, (HK.out.alloc _).below hb⟩
      | true =>
        go_wp2
        go_roundw
        case rel =>
          go_light
          exact ⟨1, _, rfl, rfl, .inr (.inl ⟨rfl, rfl, rfl⟩), ((HK.out.setCell _ _).setCell _ _).alloc _, box_kept HB.out (by omega)⟩
        case measure => simp [intOf]
    · go_wp2
      refine wp_loop_rounds 2 ?_
      rw [rounds_succ]
      go_wp2
      try (rw [rounds_succ]; go_wp2)
      refine wp_loop_rounds 2 ?_
      rw [rounds_succ]
      go_wp2_with fail
      try (rw [rounds_succ]; go_wp2_with fail)
      refine (fits_any pr P L _ _ pt _ _ _ hP0 hP hL0 hL (by first | exact w64_bd _ | omega) (by first | exact w64_bd _ | omega)).mono ?_
      rintro e w' ⟨rfl, rfl⟩
      generalize fitB P L _ _ = fb
      cases fb with
      | false =>
        go_wp2_with (go_at_call 12; refine (outside_any F pr P L _ _ pt _ _ _ _ (by exact hF2) hr0 hr hP0 hP hL0 hL (by first | exact (w64_bd _).1 | omega) (by first | exact (w64_bd _).2 | omega)).mono ?_; rintro e w' ⟨a, rfl, hb⟩)
        go_ret
        exact ⟨.inr ⟨a, rfl⟩, (HK.out.alloc _).below hb⟩
      | true =>
        go_wp2
        go_roundw
        case rel =>
          go_light
          exact ⟨2, _, rfl, rfl, .inr (.inr ⟨rfl, rfl, rfl⟩), ((HK.out.setCell _ _).setCell _ _).alloc _, box_kept HB.out (by omega)⟩
        case measure => simp [intOf]

set_option maxRecDepth 100000 in
set_option maxHeartbeats 4000000 in
theorem dec1 (F : Interp) (pr P L : Int) (pt : Value) (bb T n off : Nat) (v : Int) (w : World) (hF : F.answers w.tape) (hr0 : 1 ≤ pr) (hr : pr ≤ 1048576) (hP0 : 1 ≤ P) (hP : P ≤ 16) (hL0 : 1 ≤ L) (hL : L ≤ 16)
    (hv : w.cell? ⟨bb, 0, none⟩ = some (.int .u8 v)) (hv0 : 0 ≤ v) (hv1 : v ≤ 255) (hbb : bb < w.heap.size) (hT : T < w.heap.size) (hne : bb ≠ T) (ht : Tab T n w) (hoff : off + 4 ≤ n) :
    Calls Ybaf.prog 20 #[.agg #[.int .i64 pr, .int .i64 P, .int .i64 L, .int .i64 1, .int .i64 3, pt], .slice (some ⟨bb, 0, none⟩) 1 1, .slice (some ⟨T, off, none⟩) 2 2] w fun e w' =>
      DecEnd e ∧ KeptT T n w w' := by
  have HT : Hid (Tab T n w) := ht
  clear ht
  go_enter Ybaf.func20, Ybaf.ntmps20
  go_wp2
  go_quiet (fail)
  go_wp2
  go_loopw [7, 8, 13, 31] (fun acc nn nx ix wr => ∃ (p : Nat) (X : Int), ix = .int .i64 p ∧ acc = .int .u64 X ∧ ((p = 0 ∧ nn = .int .u64 0 ∧ nx = .int .i64 0) ∨ (p = 1 ∧ nn = .int .u64 4 ∧ nx = .int .i64 1) ∨ (p = 2 ∧ nn = .int .u64 0 ∧ nx = .int .i64 1)) ∧ KeptT T n w wr ∧ wr.heap[w.heap.size]? = some (.cells #[.int .i64 pr, .int .i64 P, .int .i64 L, .int .i64 1, .int .i64 3, pt] 25 (0, 0))) (fun _ _ _ ix _ => 2 - (intOf ix).toNat)
  case atStart => exact ⟨0, 0, rfl, rfl, .inl ⟨rfl, rfl, rfl⟩, KeptT.start _ _ _ _ _, box_start _ _ _⟩
  case round =>
    obtain ⟨p, X, rfl, rfl, hp, hK, hbox⟩ := hrel
    have HK := hide hK
    have hF2 := hK.answers hF
    have hT2 := hK.tab HT.out
    have hv2 : wr.cell? ⟨bb, 0, none⟩ = some (.int .u8 v) := (hK.cellAt hbb hne).trans hv
    have k0 := boxc hbox 0
    have k1 := boxc hbox 1
    have k2 := boxc hbox 2
    have k3 := boxc hbox 3
    have k4 := boxc hbox 4
    have k5 := boxc hbox 5
    simp at k0 k1 k2 k3 k4 k5
    have hz := hK.gb.size
    have hz2 : w.heap.size < wr.heap.size := lt_of_some hbox
    have HB := hide hbox
    have HT2 := hide hT2
    clear hK hbox hT2 hv
    have hTw : T < wr.heap.size := by omega
    obtain ⟨x0, hx0⟩ := HT2.out.cell off (by omega)
    obtain ⟨x1, hx1⟩ := HT2.out.cell (off + 1) (by omega)
    obtain ⟨x2, hx2⟩ := HT2.out.cell (off + 2) (by omega)
    obtain ⟨x3, hx3⟩ := HT2.out.cell (off + 3) (by omega)
    have f0 := HT2.out.free off
    have f1 := HT2.out.free (off + 1)
    have f2 := HT2.out.free (off + 2)
    have f3 := HT2.out.free (off + 3)
    rcases hp with ⟨rfl, rfl, rfl⟩ | ⟨rfl, rfl, rfl⟩ | ⟨rfl, rfl, rfl⟩
    rotate_left 2
    · go_wp2
      go_ret
      exact ⟨.inl rfl, HK.out⟩
    · go_wp2
      refine wp_loop_rounds 2 ?_
      rw [rounds_succ]
      go_wp2
      try (rw [rounds_succ]; go_wp2)
      refine wp_loop_rounds 2 ?_
      rw [rounds_succ]
      go_wp2_with fail
      try (rw [rounds_succ]; go_wp2_with fail)
      refine (fits_any pr P L _ _ pt _ _ _ hP0 hP hL0 hL (by first | exact w64_bd _ | omega) (by first | exact w64_bd _ | omega)).mono ?_
      rintro e w' ⟨rfl, rfl⟩
      generalize fitB P L _ _ = fb
      cases fb with
      | false =>
        go_wp2_with (go_at_call 12; refine (outside_any F pr P L _ _ pt _ _ _ _ (by exact hF2) hr0 hr hP0 hP hL0 hL (by first | exact (w64_bd _).1 | omega) (by first | exact (w64_bd _).2 | omega)).mono ?_; rintro e w' ⟨a, rfl, hb⟩)
        go_ret
        exact ⟨.inr ⟨a, rfl⟩, (HK.out.alloc _).below hb⟩
      | true =>
        go_wp2
        go_roundw
        case rel =>
          go_light
          exact ⟨1, _, rfl, rfl, .inr (.inl ⟨rfl, rfl, rfl⟩), ((HK.out.setCell _ _).setCell _ _).alloc _, box_kept HB.out (by omega)⟩
        case measure => simp [intOf]
    · go_wp2
      refine wp_loop_rounds 2 ?_
      rw [rounds_succ]
      go_wp2
      try (rw [rounds_succ]; go_wp2)
      refine wp_loop_rounds 2 ?_
      rw [rounds_succ]
      go_wp2_with fail
      try (rw [rounds_succ]; go_wp2_with fail)
      refine (fits_any pr P L _ _ pt _ _ _ hP0 hP hL0 hL (by first | exact w64_bd _ | omega) (by first | exact w64_bd _ | omega)).mono ?_
      rintro e w' ⟨rfl, rfl⟩
      generalize fitB P L _ _ = fb
      cases fb with
      | false =>
        go_wp2_with (go_at_call 12; refine (outside_any F pr P L _ _ pt _ _ _ _ (by exact hF2) hr0 hr hP0 hP hL0 hL (by first | exact (w64_bd _).1 | omega) (by first | exact (w64_bd _).2 | omega)).mono ?_; rintro e w' ⟨a, rfl, hb⟩)
        go_ret
        exact ⟨.inr ⟨a, rfl⟩, (HK.out.alloc _).below hb⟩
      | true =>
        go_wp2
        go_roundw
        case rel =>
          go_light
          exact ⟨2, _, rfl, rfl, .inr (.inr ⟨rfl, rfl, rfl⟩), ((HK.out.setCell _ _).setCell _ _).alloc _, box_kept HB.out (by omega)⟩
        case measure => simp [intOf]

set_option maxRecDepth 100000 in
set_option maxHeartbeats 4000000 in
theorem dec2 (F : Interp) (pr P L : Int) (pt : Value) (bb T n off : Nat) (v : Int) (w : World) (hF : F.answers w.tape) (hr0 : 1 ≤ pr) (hr : pr ≤ 1048576) (hP0 : 1 ≤ P) (hP : P ≤ 16) (hL0 : 1 ≤ L) (hL : L ≤ 16)
    (hv : w.cell? ⟨bb, 0, none⟩ = some (.int .u8 v)) (hv0 : 0 ≤ v) (hv1 : v ≤ 255) (hbb : bb < w.heap.size) (hT : T < w.heap.size) (hne : bb ≠ T) (ht : Tab T n w) (hoff : off + 4 ≤ n) :
    Calls Ybaf.prog 20 #[.agg #[.int .i64 pr, .int .i64 P, .int .i64 L, .int .i64 2, .int .i64 2, pt], .slice (some ⟨bb, 0, none⟩) 1 1, .slice (some ⟨T, off, none⟩) 2 2] w fun e w' =>
      DecEnd e ∧ KeptT T n w w' := by
  have HT : Hid (Tab T n w) := ht
  clear ht
  go_enter Ybaf.func20, Ybaf.ntmps20
  go_wp2
  go_quiet (fail)
  go_wp2
  go_loopw [7, 8, 13, 31] (fun acc nn nx ix wr => ∃ (p : Nat) (X : Int), ix = .int .i64 p ∧ acc = .int .u64 X ∧ ((p = 0 ∧ nn = .int .u64 0 ∧ nx = .int .i64 0) ∨ (p = 1 ∧ nn = .int .u64 4 ∧ nx = .int .i64 1) ∨ (p = 2 ∧ nn = .int .u64 0 ∧ nx = .int .i64 1)) ∧ KeptT T n w wr ∧ wr.heap[w.heap.size]? = some (.cells #[.int .i64 pr, .int .i64 P, .int .i64 L, .int .i64 2, .int .i64 2, pt] 25 (0, 0))) (fun _ _ _ ix _ => 2 - (intOf ix).toNat)
  case atStart => exact ⟨0, 0, rfl, rfl, .inl ⟨rfl, rfl, rfl⟩, KeptT.start _ _ _ _ _, box_start _ _ _⟩
  case round =>
    obtain ⟨p, X, rfl, rfl, hp, hK, hbox⟩ := hrel
    have HK := hide hK
    have hF2 := hK.answers hF
    have hT2 := hK.tab HT.out
    have hv2 : wr.cell? ⟨bb, 0, none⟩ = some (.int .u8 v) := (hK.cellAt hbb hne).trans hv
    have k0 := boxc hbox 0
    have k1 := boxc hbox 1
    have k2 := boxc hbox 2
    have k3 := boxc hbox 3
    have k4 := boxc hbox 4
    have k5 := boxc hbox 5
    simp at k0 k1 k2 k3 k4 k5
    have hz := hK.gb.size
    have hz2 : w.heap.size < wr.heap.size := lt_of_some hbox
    have HB := hide hbox
    have HT2 := hide hT2
    clear hK hbox hT2 hv
    have hTw : T < wr.heap.size := by omega
    obtain ⟨x0, hx0⟩ := HT2.out.cell off (by omega)
    obtain ⟨x1, hx1⟩ := HT2.out.cell (off + 1) (by omega)
    obtain ⟨x2, hx2⟩ := HT2.out.cell (off + 2) (by omega)
    obtain ⟨x3, hx3⟩ := HT2.out.cell (off + 3) (by omega)
    have f0 := HT2.out.free off
    have f1 := HT2.out.free (off + 1)
    have f2 := HT2.out.free (off + 2)
    have f3 := HT2.out.free (off + 3)
    rcases hp with ⟨rfl, rfl, rfl⟩ | ⟨rfl, rfl, rfl⟩ | ⟨rfl, rfl, rfl⟩
    rotate_left 2
    · go_wp2
      go_ret
      exact ⟨.inl rfl, HK.out⟩
    · go_wp2
      refine wp_loop_rounds 2 ?_
      rw [rounds_succ]
      go_wp2
      try (rw [rounds_succ]; go_wp2)
      refine wp_loop_rounds 2 ?_
      rw [rounds_succ]
      go_wp2_with fail
      try (rw [rounds_succ]; go_wp2_with fail)
      refine (fits_any pr P L _ _ pt _ _ _ hP0 hP hL0 hL (by first | exact w64_bd _ | omega) (by first | exact w64_bd _ | omega)).mono ?_
      rintro e w' ⟨rfl, rfl⟩
      generalize fitB P L _ _ = fb
      cases fb with
      | false =>
        go_wp2_with (go_at_call 12; refine (outside_any F pr P L _ _ pt _ _ _ _ (by exact hF2) hr0 hr hP0 hP hL0 hL (by first | exact (w64_bd _).1 | omega) (by first | exact (w64_bd _).2 | omega)).mono ?_; rintro e w' ⟨a, rfl, hb⟩)
        go_ret
        exact ⟨.inr ⟨a, rfl⟩, (HK.out.alloc _).below hb⟩
      | true =>
        go_wp2
        go_roundw
        case rel =>
          go_light
          exact ⟨1, _, rfl, rfl, .inr (.inl ⟨rfl, rfl, rfl⟩), ((HK.out.setCell _ _).setCell _ _).alloc _, box_kept HB.out (by omega)⟩
        case measure => simp [intOf]
    · go_wp2
      refine wp_loop_rounds 2 ?_
      rw [rounds_succ]
      go_wp2
      try (rw [rounds_succ]; go_wp2)
      refine wp_loop_rounds 2 ?_
      rw [rounds_succ]
      go_wp2_with fail
      try (rw [rounds_succ]; go_wp2_with fail)
      refine (fits_any pr P L _ _ pt _ _ _ hP0 hP hL0 hL (by first | exact w64_bd _ | omega) (by first | exact w64_bd _ | omega)).mono ?_
      rintro e w' ⟨rfl, rfl⟩
      generalize fitB P L _ _ = fb
      cases fb with
      | false =>
        go_wp2_with (go_at_call 12; refine (outside_any F pr P L _ _ pt _ _ _ _ (by exact hF2) hr0 hr hP0 hP hL0 hL (by first | exact (w64_bd _).1 | omega) (by first | exact (w64_bd _).2 | omega)).mono ?_; rintro e w' ⟨a, rfl, hb⟩)
        go_ret
        exact ⟨.inr ⟨a, rfl⟩, (HK.out.alloc _).below hb⟩
      | true =>
        go_wp2
        go_roundw
        case rel =>
          go_light
          exact ⟨2, _, rfl, rfl, .inr (.inr ⟨rfl, rfl, rfl⟩), ((HK.out.setCell _ _).setCell _ _).alloc _, box_kept HB.out (by omega)⟩
        case measure => simp [intOf]

set_option maxRecDepth 100000 in
set_option maxHeartbeats 4000000 in
theorem dec3 (F : Interp) (pr P L : Int) (pt : Value) (bb T n off : Nat) (v : Int) (w : World) (hF : F.answers w.tape) (hr0 : 1 ≤ pr) (hr : pr ≤ 1048576) (hP0 : 1 ≤ P) (hP : P ≤ 16) (hL0 : 1 ≤ L) (hL : L ≤ 16)
    (hv : w.cell? ⟨bb, 0, none⟩ = some (.int .u8 v)) (hv0 : 0 ≤ v) (hv1 : v ≤ 255) (hbb : bb < w.heap.size) (hT : T < w.heap.size) (hne : bb ≠ T) (ht : Tab T n w) (hoff : off + 4 ≤ n) :
    Calls Ybaf.prog 20 #[.agg #[.int .i64 pr, .int .i64 P, .int .i64 L, .int .i64 3, .int .i64 1, pt], .slice (some ⟨bb, 0, none⟩) 1 1, .slice (some ⟨T, off, none⟩) 2 2] w fun e w' =>
      DecEnd e ∧ KeptT T n w w' := by
  have HT : Hid (Tab T n w) := ht
  clear ht
  go_enter Ybaf.func20, Ybaf.ntmps20
  go_wp2
  go_quiet (fail)
  go_wp2
  go_loopw [7, 8, 13, 31] (fun acc nn nx ix wr => ∃ (p : Nat) (X : Int), ix = .int .i64 p ∧ acc = .int .u64 X ∧ ((p = 0 ∧ nn = .int .u64 0 ∧ nx = .int .i64 0) ∨ (p = 1 ∧ nn = .int .u64 4 ∧ nx = .int .i64 1) ∨ (p = 2 ∧ nn = .int .u64 0 ∧ nx = .int .i64 1)) ∧ KeptT T n w wr ∧ wr.heap[w.heap.size]? = some (.cells #[.int .i64 pr, .int .i64 P, .int .i64 L, .int .i64 3, .int .i64 1, pt] 25 (0, 0))) (fun _ _ _ ix _ => 2 - (intOf ix).toNat)
  case atStart => exact ⟨0, 0, rfl, rfl, .inl ⟨rfl, rfl, rfl⟩, KeptT.start _ _ _ _ _, box_start _ _ _⟩
  case round =>
    obtain ⟨p, X, rfl, rfl, hp, hK, hbox⟩ := hrel
    have HK := hide hK
    have hF2 := hK.answers hF
    have hT2 := hK.tab HT.out
    have hv2 : wr.cell? ⟨bb, 0, none⟩ = some (.int .u8 v) := (hK.cellAt hbb hne).trans hv
    have k0 := boxc hbox 0
    have k1 := boxc hbox 1
    have k2 := boxc hbox 2
    have k3 := boxc hbox 3
    have k4 := boxc hbox 4
    have k5 := boxc hbox 5
    simp at k0 k1 k2 k3 k4 k5
    have hz := hK.gb.size
    have hz2 : w.heap.size < wr.heap.size := lt_of_some hbox
    have HB := hide hbox
    have HT2 := hide hT2
    clear hK hbox hT2 hv
    have hTw : T < wr.heap.size := by omega
    obtain ⟨x0, hx0⟩ := HT2.out.cell off (by omega)
    obtain ⟨x1, hx1⟩ := HT2.out.cell (off + 1) (by omega)
    obtain ⟨x2, hx2⟩ := HT2.out.cell (off + 2) (by omega)
    obtain ⟨x3, hx3⟩ := HT2.out.cell (off + 3) (by omega)
    have f0 := HT2.out.free off
    have f1 := HT2.out.free (off + 1)
    have f2 := HT2.out.free (off + 2)
    have f3 := HT2.out.free (off + 3)
    rcases hp with ⟨rfl, rfl, rfl⟩ | ⟨rfl, rfl, rfl⟩ | ⟨rfl, rfl, rfl⟩
    rotate_left 2
    · go_wp2
      go_ret
      exact ⟨.inl rfl, HK.out⟩
    · go_wp2
      refine wp_loop_rounds 2 ?_
      rw [rounds_succ]
      go_wp2
      try (rw [rounds_succ]; go_wp2)
      refine wp_loop_rounds 2 ?_
      rw [rounds_succ]
      go_wp2_with fail
      try (rw [rounds_succ]; go_wp2_with fail)
      refine (fits_any pr P L _ _ pt _ _ _ hP0 hP hL0 hL (by first | exact w64_bd _ | omega) (by first | exact w64_bd _ | omega)).mono ?_
      rintro e w' ⟨rfl, rfl⟩
      generalize fitB P L _ _ = fb
      cases fb with
      | false =>
        go_wp2_with (go_at_call 12; refine (outside_any F pr P L _ _ pt _ _ _ _ (by exact hF2) hr0 hr hP0 hP hL0 hL (by first | exact (w64_bd _).1 | omega) (by first | exact (w64_bd _).2 | omega)).mono ?_; rintro e w' ⟨a, rfl, hb⟩)
        go_ret
        exact ⟨.inr ⟨a, rfl⟩, (HK.out.alloc _).below hb⟩
      | true =>
        go_wp2
        go_roundw
        case rel =>
          go_light
          exact ⟨1, _, rfl, rfl, .inr (.inl ⟨rfl, rfl, rfl⟩), ((HK.out.setCell _ _).setCell _ _).alloc _, box_kept HB.out (by omega)⟩
        case measure => simp [intOf]
    · go_wp2
      refine wp_loop_rounds 2 ?_
      rw [rounds_succ]
      go_wp2
      try (rw [rounds_succ]; go_wp2)
      refine wp_loop_rounds 2 ?_
      rw [rounds_succ]
      go_wp2_with fail
      try (rw [rounds_succ]; go_wp2_with fail)
      refine (fits_any pr P L _ _ pt _ _ _ hP0 hP hL0 hL (by first | exact w64_bd _ | omega) (by first | exact w64_bd _ | omega)).mono ?_
      rintro e w' ⟨rfl, rfl⟩
      generalize fitB P L _ _ = fb
      cases fb with
      | false =>
        go_wp2_with (go_at_call 12; refine (outside_any F pr P L _ _ pt _ _ _ _ (by exact hF2) hr0 hr hP0 hP hL0 hL (by first | exact (w64_bd _).1 | omega) (by first | exact (w64_bd _).2 | omega)).mono ?_; rintro e w' ⟨a, rfl, hb⟩)
        go_ret
        exact ⟨.inr ⟨a, rfl⟩, (HK.out.alloc _).below hb⟩
      | true =>
        go_wp2
        go_roundw
        case rel =>
          go_light
          exact ⟨2, _, rfl, rfl, .inr (.inr ⟨rfl, rfl, rfl⟩), ((HK.out.setCell _ _).setCell _ _).alloc _, box_kept HB.out (by omega)⟩
        case measure => simp [intOf]

set_option maxRecDepth 100000 in
set_option maxHeartbeats 4000000 in
theorem dec4 (F : Interp) (pr P L : Int) (pt : Value) (bb T n off : Nat) (v : Int) (w : World) (hF : F.answers w.tape) (hr0 : 1 ≤ pr) (hr : pr ≤ 1048576) (hP0 : 1 ≤ P) (hP : P ≤ 16) (hL0 : 1 ≤ L) (hL : L ≤ 16)
    (hv : w.cell? ⟨bb, 0, none⟩ = some (.int .u8 v)) (hv0 : 0 ≤ v) (hv1 : v ≤ 255) (hbb : bb < w.heap.size) (hT : T < w.heap.size) (hne : bb ≠ T) (ht : Tab T n w) (hoff : off + 4 ≤ n) :
    Calls Ybaf.prog 20 #[.agg #[.int .i64 pr, .int .i64 P, .int .i64 L, .int .i64 4, .int .i64 0, pt], .slice (some ⟨bb, 0, none⟩) 1 1, .slice (some ⟨T, off, none⟩) 2 2] w fun e w' =>
      DecEnd e ∧ KeptT T n w w' := by
  have HT : Hid (Tab T n w) := ht
  clear ht
  go_enter Ybaf.func20, Ybaf.ntmps20
  go_wp2
  go_quiet (fail)
  go_wp2
  go_loopw [7, 8, 13, 31] (fun acc nn nx ix wr => ∃ (p : Nat) (X : Int), ix = .int .i64 p ∧ acc = .int .u64 X ∧ ((p = 0 ∧ nn = .int .u64 0 ∧ nx = .int .i64 0) ∨ (p = 1 ∧ nn = .int .u64 4 ∧ nx = .int .i64 1) ∨ (p = 2 ∧ nn = .int .u64 0 ∧ nx = .int .i64 1)) ∧ KeptT T n w wr ∧ wr.heap[w.heap.size]? = some (.cells #[.int .i64 pr, .int .i64 P, .int .i64 L, .int .i64 4, .int .i64 0, pt] 25 (0, 0))) (fun _ _ _ ix _ => 2 - (intOf ix).toNat)
  case atStart => exact ⟨0, 0, rfl, rfl, .inl ⟨rfl, rfl, rfl⟩, KeptT.start _ _ _ _ _, box_start _ _ _⟩
  case round =>
    obtain ⟨p, X, rfl, rfl, hp, hK, hbox⟩ := hrel
    have HK := hide hK
    have hF2 := hK.answers hF
    have hT2 := hK.tab HT.out
    have hv2 : wr.cell? ⟨bb, 0, none⟩ = some (.int .u8 v) := (hK.cellAt hbb hne).trans hv
    have k0 := boxc hbox 0
    have k1 := boxc hbox 1
    have k2 := boxc hbox 2
    have k3 := boxc hbox 3
    have k4 := boxc hbox 4
    have k5 := boxc hbox 5
    simp at k0 k1 k2 k3 k4 k5
    have hz := hK.gb.size
    have hz2 : w.heap.size < wr.heap.size := lt_of_some hbox
    have HB := hide hbox
    have HT2 := hide hT2
    clear hK hbox hT2 hv
    have hTw : T < wr.heap.size := by omega
    obtain ⟨x0, hx0⟩ := HT2.out.cell off (by omega)
    obtain ⟨x1, hx1⟩ := HT2.out.cell (off + 1) (by omega)
    obtain ⟨x2, hx2⟩ := HT2.out.cell (off + 2) (by omega)
    obtain ⟨x3, hx3⟩ := HT2.out.cell (off + 3) (by omega)
    have f0 := HT2.out.free off
    have f1 := HT2.out.free (off + 1)
    have f2 := HT2.out.free (off + 2)
    have f3 := HT2.out.free (off + 3)
    rcases hp with ⟨rfl, rfl, rfl⟩ | ⟨rfl, rfl, rfl⟩ | ⟨rfl, rfl, rfl⟩
    rotate_left 2
    · go_wp2
      go_ret
      exact ⟨.inl rfl, HK.out⟩
    · go_wp2
      refine wp_loop_rounds 2 ?_
      rw [rounds_succ]
      go_wp2
      try (rw [rounds_succ]; go_wp2)
      refine wp_loop_rounds 2 ?_
      rw [rounds_succ]
      go_wp2_with fail
      try (rw [rounds_succ]; go_wp2_with fail)
      refine (fits_any pr P L _ _ pt _ _ _ hP0 hP hL0 hL (by first | exact w64_bd _ | omega) (by first | exact w64_bd _ | omega)).mono ?_
      rintro e w' ⟨rfl, rfl⟩
      generalize fitB P L _ _ = fb
      cases fb with
      | false =>
        go_wp2_with (go_at_call 12; refine (outside_any F pr P L _ _ pt _ _ _ _ (by exact hF2) hr0 hr hP0 hP hL0 hL (by first | exact (w64_bd _).1 | omega) (by first | exact (w64_bd _).2 | omega)).mono ?_; rintro e w' ⟨a, rfl, hb⟩)
        go_ret
        exact ⟨.inr ⟨a, rfl⟩, (HK.out.alloc _).below hb⟩
      | true =>
        go_wp2
        go_roundw
        case rel =>
          go_light
          exact ⟨1, _, rfl, rfl, .inr (.inl ⟨rfl, rfl, rfl⟩), ((HK.out.setCell _ _).setCell _ _).alloc _, box_kept HB.out (by omega)⟩
        case measure => simp [intOf]
    · go_wp2
      refine wp_loop_rounds 2 ?_
      rw [rounds_succ]
      go_wp2
      try (rw [rounds_succ]; go_wp2)
      refine wp_loop_rounds 2 ?_
      rw [rounds_succ]
      go_wp2_with fail
      try (rw [rounds_succ]; go_wp2_with fail)
      refine (fits_any pr P L _ _ pt _ _ _ hP0 hP hL0 hL (by first | exact w64_bd _ | omega) (by first | exact w64_bd _ | omega)).mono ?_
      rintro e w' ⟨rfl, rfl⟩
      generalize fitB P L _ _ = fb
      cases fb with
      | false =>
        go_wp2_with (go_at_call 12; refine (outside_any F pr P L _ _ pt _ _ _ _ (by exact hF2) hr0 hr hP0 hP hL0 hL (by first | exact (w64_bd _).1 | omega) (by first | exact (w64_bd _).2 | omega)).mono ?_; rintro e w' ⟨a, rfl, hb⟩)
        go_ret
        exact ⟨.inr ⟨a, rfl⟩, (HK.out.alloc _).below hb⟩
      | true =>
        go_wp2
        go_roundw
        case rel =>
          go_light
          exact ⟨2, _, rfl, rfl, .inr (.inr ⟨rfl, rfl, rfl⟩), ((HK.out.setCell _ _).setCell _ _).alloc _, box_kept HB.out (by omega)⟩
        case measure => simp [intOf]

theorem dec_any (F : Interp) (pr P L pb cb : Int) (pt : Value) (bb T n off : Nat) (v : Int) (w : World) (hF : F.answers w.tape) (hr0 : 1 ≤ pr) (hr : pr ≤ 1048576) (hP0 : 1 ≤ P) (hP : P ≤ 16) (hL0 : 1 ≤ L) (hL : L ≤ 16)
    (hpb : 0 ≤ pb) (hcb : 0 ≤ cb) (hpc : pb + cb = 4) (hv : w.cell? ⟨bb, 0, none⟩ = some (.int .u8 v)) (hv0 : 0 ≤ v) (hv1 : v ≤ 255) (hbb : bb < w.heap.size) (hT : T < w.heap.size) (hne : bb ≠ T) (ht : Tab T n w) (hoff : off + 4 ≤ n) :
    Calls Ybaf.prog 20 #[.agg #[.int .i64 pr, .int .i64 P, .int .i64 L, .int .i64 pb, .int .i64 cb, pt], .slice (some ⟨bb, 0, none⟩) 1 1, .slice (some ⟨T, off, none⟩) 2 2] w fun e w' =>
      DecEnd e ∧ KeptT T n w w' := by
  obtain ⟨h1, h2⟩ | ⟨h1, h2⟩ | ⟨h1, h2⟩ | ⟨h1, h2⟩ | ⟨h1, h2⟩ : (pb = 0 ∧ cb = 4) ∨ (pb = 1 ∧ cb = 3) ∨ (pb = 2 ∧ cb = 2) ∨ (pb = 3 ∧ cb = 1) ∨ (pb = 4 ∧ cb = 0) := by omega
  all_goals subst h1; subst h2
  · exact dec0 F pr P L pt bb T n off v w hF hr0 hr hP0 hP hL0 hL hv hv0 hv1 hbb hT hne ht hoff
  · exact dec1 F pr P L pt bb T n off v w hF hr0 hr hP0 hP hL0 hL hv hv0 hv1 hbb hT hne ht hoff
  · exact dec2 F pr P L pt bb T n off v w hF hr0 hr hP0 hP hL0 hL hv hv0 hv1 hbb hT hne ht hoff
  · exact dec3 F pr P L pt bb T n off v w hF hr0 hr hP0 hP hL0 hL hv hv0 hv1 hbb hT hne ht hoff
  · exact dec4 F pr P L pt bb T n off v w hF hr0 hr hP0 hP hL0 hL hv hv0 hv1 hbb hT hne ht hoff

end Go.Proofs.YbulkcwdyFmt
