/-
  decodeDS.
-/
import Derived.Test.YbulkcwlmDoorKey
namespace Go.Proofs.YbulkcwlmDoor
open Go.RowKit

theorem below_draws {B : Nat} {w W : World} (h : Below B w W) (q : Nat) : Below B w (W.drewN q) := ⟨h.os, h.tape, h.output, h.size, h.block⟩

/-- Four stores. -/
def put4 (W : World) (ds : Nat) (x0 x1 x2 x3 : Value) : World := (((W.setCell ⟨ds, 0, none⟩ x0).setCell ⟨ds, 1, none⟩ x1).setCell ⟨ds, 2, none⟩ x2).setCell ⟨ds, 3, none⟩ x3
theorem off_ne {b i j : Nat} (h : i ≠ j) : (⟨b, i, none⟩ : Addr) ≠ ⟨b, j, none⟩ := by intro e; injection e with e1 e2; exact h e2
theorem blk_ne {b c i j : Nat} (h : b ≠ c) : (⟨b, i, none⟩ : Addr) ≠ ⟨c, j, none⟩ := by intro e; injection e with e1 e2; exact h e1
theorem put4_cells (W : World) (ds : Nat) (x0 x1 x2 x3 y0 y1 y2 y3 : Value) (c0 : W.cell? ⟨ds, 0, none⟩ = some y0) (c1 : W.cell? ⟨ds, 1, none⟩ = some y1) (c2 : W.cell? ⟨ds, 2, none⟩ = some y2) (c3 : W.cell? ⟨ds, 3, none⟩ = some y3) :
    (put4 W ds x0 x1 x2 x3).cell? ⟨ds, 0, none⟩ = some x0 ∧ (put4 W ds x0 x1 x2 x3).cell? ⟨ds, 1, none⟩ = some x1 ∧ (put4 W ds x0 x1 x2 x3).cell? ⟨ds, 2, none⟩ = some x2 ∧ (put4 W ds x0 x1 x2 x3).cell? ⟨ds, 3, none⟩ = some x3 := by
  unfold put4
  refine ⟨?_, ?_, ?_, ?_⟩
  · rw [World.cell?_setCell_other _ _ _ _ (off_ne (by decide)), World.cell?_setCell_other _ _ _ _ (off_ne (by decide)), World.cell?_setCell_other _ _ _ _ (off_ne (by decide)), World.cell?_setCell_same _ _ _ c0]
  · rw [World.cell?_setCell_other _ _ _ _ (off_ne (by decide)), World.cell?_setCell_other _ _ _ _ (off_ne (by decide)), World.cell?_setCell_same _ _ _ ((World.cell?_setCell_other _ _ _ _ (off_ne (by decide))).trans c1)]
  · rw [World.cell?_setCell_other _ _ _ _ (off_ne (by decide)), World.cell?_setCell_same _ _ _ ((World.cell?_setCell_other _ _ _ _ (off_ne (by decide))).trans ((World.cell?_setCell_other _ _ _ _ (off_ne (by decide))).trans c2))]
  · rw [World.cell?_setCell_same _ _ _ ((World.cell?_setCell_other _ _ _ _ (off_ne (by decide))).trans ((World.cell?_setCell_other _ _ _ _ (off_ne (by decide))).trans ((World.cell?_setCell_other _ _ _ _ (off_ne (by decide))).trans c3)))]
theorem put4_far (W : World) (ds : Nat) (x0 x1 x2 x3 : Value) (b i : Nat) (h : b ≠ ds) : (put4 W ds x0 x1 x2 x3).cell? ⟨b, i, none⟩ = W.cell? ⟨b, i, none⟩ := by
  unfold put4
  rw [World.cell?_setCell_other _ _ _ _ (blk_ne h.symm), World.cell?_setCell_other _ _ _ _ (blk_ne h.symm), World.cell?_setCell_other _ _ _ _ (blk_ne h.symm), World.cell?_setCell_other _ _ _ _ (blk_ne h.symm)]
theorem put4_frozen (W : World) (ds : Nat) (x0 x1 x2 x3 : Value) (a : Addr) : (put4 W ds x0 x1 x2 x3).frozen? a = W.frozen? a := by
  unfold put4
  simp only [World.frozen?_setCell]
theorem put4_below {w W : World} {B : Nat} (h : Below B w W) (ds : Nat) (hd : B ≤ ds) (x0 x1 x2 x3 : Value) : Below B w (put4 W ds x0 x1 x2 x3) := (((h.setCell (p := ⟨ds, 0, none⟩) hd _).setCell (p := ⟨ds, 1, none⟩) hd _).setCell (p := ⟨ds, 2, none⟩) hd _).setCell (p := ⟨ds, 3, none⟩) hd _
abbrev zeroDS : Array Value := #[.int .u16 0, .int .u8 0, .int .u8 0, .slice none 0 0]

/-- The decoder's block is 'bd'; what a refused decoding leaves. -/
def DecNo (bd : Nat) (o : Nat) (w w' : World) (ds : Nat) : Prop :=
  Below w.heap.size w w' ∧ w'.cell? ⟨ds, 0, none⟩ = some (.int .u16 0) ∧ w'.cell? ⟨ds, 1, none⟩ = some (.int .u8 0) ∧ w'.cell? ⟨ds, 2, none⟩ = some (.int .u8 0) ∧ w'.cell? ⟨ds, 3, none⟩ = some (.slice none 0 0) ∧ w'.cell? ⟨bd, 1, none⟩ = some (.int .i64 o)

set_option maxHeartbeats 2000000 in
theorem dec_no (bd o e : Nat) (a : Addr) (w : World) (hb1 : w.cell? ⟨bd, 1, none⟩ = some (.int .i64 o)) (hg : w.cell? ⟨0, 0, none⟩ = some (.iface 43 (.pointer (some a)))) (ho : o ≤ 1024) (he : e ≤ 1024) (hlt : e < o + 4) :
    Calls Ybad.prog 4 #[.pointer (some ⟨bd, 0, none⟩), .int .i64 e] w fun r w' => r = .returned (.tuple #[.iface 34 (.pointer (some ⟨w.heap.size, 0, none⟩)), .iface 43 (.pointer (some a))]) ∧ DecNo bd o w w' w.heap.size := by
  have hbd : bd < w.heap.size := World.block_lt_of_cell? w _ hb1
  have h0 : 0 < w.heap.size := World.block_lt_of_cell? w _ hg
  go_enter Ybad.func4, Ybad.ntmps4
  go_wp2_with (go_at_call 5; refine (key_no bd o e a _ (by go_simp) (by go_simp) ho he hlt).mono ?_; rintro r w' ⟨rfl, q, rfl⟩)
  go_ret2
  refine ⟨by simp, ?_⟩
  have Z : ∀ i v, zeroDS[i]? = some v → ((w.alloc (.cells zeroDS 38)).drewN q).cell? ⟨w.heap.size, i, none⟩ = some v := fun i v hv => (World.cell?_alloc_at _ _ _ _ rfl).trans hv
  obtain ⟨k0, k1, k2, k3⟩ := put4_cells ((w.alloc (.cells zeroDS 38)).drewN q) w.heap.size (.int .u16 0) (.int .u8 0) (.int .u8 0) (.slice none 0 0) _ _ _ _ (Z 0 _ rfl) (Z 1 _ rfl) (Z 2 _ rfl) (Z 3 _ rfl)
  refine ⟨put4_below (below_draws ((Below.refl _ _).alloc (Nat.le_refl _) _) q) _ (Nat.le_refl _) _ _ _ _, k0, k1, k2, k3, ?_⟩
  exact (put4_far _ _ _ _ _ _ bd 1 (by omega)).trans ((World.cell?_alloc_past _ _ _ hbd).trans hb1)

/-- What a decoding leaves. -/
def DecOk (bd o e : Nat) (f : Nat → Int) (w w' : World) (ds : Nat) : Prop :=
  ∃ (v : Value) (w0 w1 : World), Below bd w w' ∧ w0.heap.size = w.heap.size + 1 ∧ Cop w0 w1 v (e - (o + 4)) (fun i => f (o + 4 + i)) ∧ w1.heap.size ≤ w'.heap.size ∧ (∀ b i, w.heap.size < b → w'.cell? ⟨b, i, none⟩ = w1.cell? ⟨b, i, none⟩) ∧ (∀ b i, w'.frozen? ⟨b, i, none⟩ = w1.frozen? ⟨b, i, none⟩) ∧
    w'.cell? ⟨ds, 0, none⟩ = some (.int .u16 (f o * 256 + f (o + 1))) ∧ w'.cell? ⟨ds, 1, none⟩ = some (.int .u8 (f (o + 2))) ∧ w'.cell? ⟨ds, 2, none⟩ = some (.int .u8 (f (o + 3))) ∧ w'.cell? ⟨ds, 3, none⟩ = some v ∧ w'.cell? ⟨bd, 1, none⟩ = some (.int .i64 e)

theorem behind_key {w w1 : World} {bd q1 q2 m : Nat} {x : Value} {v : Value} {f : Nat → Int} (hbd : bd < w.heap.size) (hC : Cop ((((w.alloc (.cells zeroDS 38)).drewN q1).setCell ⟨bd, 1, none⟩ x).drewN q2) w1 v m f) :
    (∃ ao cp, v = .slice ao m cp) ∧ (w1.cell? ⟨w.heap.size, 0, none⟩ = some (.int .u16 0) ∧ w1.cell? ⟨w.heap.size, 1, none⟩ = some (.int .u8 0) ∧ w1.cell? ⟨w.heap.size, 2, none⟩ = some (.int .u8 0) ∧ w1.cell? ⟨w.heap.size, 3, none⟩ = some (.slice none 0 0)) ∧
    w1.frozen? ⟨w.heap.size, 0, none⟩ = false ∧ w1.frozen? ⟨w.heap.size, 1, none⟩ = false ∧ w1.frozen? ⟨w.heap.size, 2, none⟩ = false ∧ w1.frozen? ⟨w.heap.size, 3, none⟩ = false := by
  have hs : w.heap.size < ((((w.alloc (.cells zeroDS 38)).drewN q1).setCell ⟨bd, 1, none⟩ x).drewN q2).heap.size := by
    have : ((((w.alloc (.cells zeroDS 38)).drewN q1).setCell ⟨bd, 1, none⟩ x).drewN q2).heap.size = (((w.alloc (.cells zeroDS 38)).drewN q1).setCell ⟨bd, 1, none⟩ x).heap.size := rfl
    rw [this, World.size_setCell]
    show w.heap.size < (w.alloc (.cells zeroDS 38)).heap.size
    rw [World.size_alloc]; omega
  have Z : ∀ i u, zeroDS[i]? = some u → w1.cell? ⟨w.heap.size, i, none⟩ = some u := fun i u hu => by
    rw [hC.cell _ _ hs]
    show (((w.alloc (.cells zeroDS 38)).drewN q1).setCell ⟨bd, 1, none⟩ x).cell? ⟨w.heap.size, i, none⟩ = some u
    rw [World.cell?_setCell_other _ _ _ _ (blk_ne (by omega))]
    exact (World.cell?_alloc_at _ _ _ _ rfl).trans hu
  have F : ∀ i, w1.frozen? ⟨w.heap.size, i, none⟩ = false := fun i => by
    rw [hC.frozen _ _ hs]
    show (((w.alloc (.cells zeroDS 38)).drewN q1).setCell ⟨bd, 1, none⟩ x).frozen? ⟨w.heap.size, i, none⟩ = false
    rw [World.frozen?_setCell]
    show (w.alloc (.cells zeroDS 38)).frozen? ⟨w.heap.size, i, none⟩ = false
    exact World.frozen?_alloc_at _ _ _ _ rfl
  refine ⟨?_, ⟨Z 0 _ rfl, Z 1 _ rfl, Z 2 _ rfl, Z 3 _ rfl⟩, F 0, F 1, F 2, F 3⟩
  rcases hC with ⟨rfl, rfl, _⟩ | ⟨_, cap, A, rfl, _⟩
  · exact ⟨_, _, rfl⟩
  · exact ⟨_, _, rfl⟩

theorem Cop.below {w w1 : World} {v : Value} {m : Nat} {f : Nat → Int} (h : Cop w w1 v m f) : Below w.heap.size w w1 := by
  rcases h with ⟨_, _, rfl⟩ | ⟨_, cap, A, _, _, _, rfl, _⟩
  · exact Below.refl _ _
  · exact (Below.refl _ w).drew.alloc (Nat.le_refl _) _

theorem dec_end {w w1 : World} {bd q1 q2 o e : Nat} {x : Value} {v : Value} {f : Nat → Int} (hbd : bd < w.heap.size) (hb1 : ∃ u, w1.cell? ⟨bd, 1, none⟩ = some u) (hC : Cop ((((w.alloc (.cells zeroDS 38)).drewN q1).setCell ⟨bd, 1, none⟩ x).drewN q2) w1 v (e - (o + 4)) (fun i => f (o + 4 + i)))
    (z0 : w1.cell? ⟨w.heap.size, 0, none⟩ = some (.int .u16 0)) (z1 : w1.cell? ⟨w.heap.size, 1, none⟩ = some (.int .u8 0)) (z2 : w1.cell? ⟨w.heap.size, 2, none⟩ = some (.int .u8 0)) (z3 : w1.cell? ⟨w.heap.size, 3, none⟩ = some (.slice none 0 0)) :
    DecOk bd o e f w (put4 (w1.setCell ⟨bd, 1, none⟩ (.int .i64 e)) w.heap.size (.int .u16 (f o * 256 + f (o + 1))) (.int .u8 (f (o + 2))) (.int .u8 (f (o + 3))) v) w.heap.size := by
  have hs : ((((w.alloc (.cells zeroDS 38)).drewN q1).setCell ⟨bd, 1, none⟩ x).drewN q2).heap.size = w.heap.size + 1 := by
    have : ((((w.alloc (.cells zeroDS 38)).drewN q1).setCell ⟨bd, 1, none⟩ x).drewN q2).heap.size = (((w.alloc (.cells zeroDS 38)).drewN q1).setCell ⟨bd, 1, none⟩ x).heap.size := rfl
    rw [this, World.size_setCell]
    show (w.alloc (.cells zeroDS 38)).heap.size = _
    rw [World.size_alloc]
  have B0 : Below bd w ((((w.alloc (.cells zeroDS 38)).drewN q1).setCell ⟨bd, 1, none⟩ x).drewN q2) := below_draws (Below.setCell (p := ⟨bd, 1, none⟩) (below_draws ((Below.refl _ _).alloc (Nat.le_of_lt hbd) _) q1) (Nat.le_refl _) _) q2
  have B1 : Below bd w w1 := B0.trans (hC.below.mono (by rw [hs]; omega))
  have T : ∀ i u, w1.cell? ⟨w.heap.size, i, none⟩ = some u → (w1.setCell ⟨bd, 1, none⟩ (.int .i64 e)).cell? ⟨w.heap.size, i, none⟩ = some u := fun i u hu => (World.cell?_setCell_other _ _ _ _ (blk_ne (by omega))).trans hu
  obtain ⟨k0, k1, k2, k3⟩ := put4_cells (w1.setCell ⟨bd, 1, none⟩ (.int .i64 e)) w.heap.size (.int .u16 (f o * 256 + f (o + 1))) (.int .u8 (f (o + 2))) (.int .u8 (f (o + 3))) v _ _ _ _ (T 0 _ z0) (T 1 _ z1) (T 2 _ z2) (T 3 _ z3)
  refine ⟨v, _, w1, put4_below (B1.setCell (p := ⟨bd, 1, none⟩) (Nat.le_refl _) _) _ (by omega) _ _ _ _, hs, hC, ?_, fun b i hb => ?_, fun b i => ?_, k0, k1, k2, k3, ?_⟩
  · unfold put4; simp only [World.size_setCell]; exact Nat.le_refl _
  · rw [put4_far _ _ _ _ _ _ b i (by omega), World.cell?_setCell_other _ _ _ _ (blk_ne (by omega))]
  · rw [put4_frozen, World.frozen?_setCell]
  · obtain ⟨u, hu⟩ := hb1
    rw [put4_far _ _ _ _ _ _ bd 1 (by omega), World.cell?_setCell_same _ _ _ hu]

set_option maxHeartbeats 2000000 in
theorem dec_ok (bd g n cap o e : Nat) (f : Nat → Int) (w : World) (hb0 : w.cell? ⟨bd, 0, none⟩ = some (.slice (some ⟨g, 0, none⟩) n cap)) (hb1 : w.cell? ⟨bd, 1, none⟩ = some (.int .i64 o)) (hf : w.frozen? ⟨bd, 1, none⟩ = false)
    (hoe : o + 4 ≤ e) (hen : e ≤ n) (hn : n ≤ 1024) (hnc : n ≤ cap) (hz : ∀ i, i < n → w.cell? ⟨g, i, none⟩ = some (.int .u8 (f i))) (hzb : ∀ i, i < n → 0 ≤ f i ∧ f i ≤ 255) (hgb : g ≠ bd) :
    Calls Ybad.prog 4 #[.pointer (some ⟨bd, 0, none⟩), .int .i64 e] w fun r w' => r = .returned (.tuple #[.iface 34 (.pointer (some ⟨w.heap.size, 0, none⟩)), .nilIface]) ∧ DecOk bd o e f w w' w.heap.size := by
  have hbd : bd < w.heap.size := World.block_lt_of_cell? w _ hb1
  have hgl : g < w.heap.size := World.block_lt_of_cell? w _ (hz 0 (by omega))
  have HZ := hide hz
  have HB := hide hzb
  clear hz hzb
  have HZ1 : Hid (∀ i, i < n → (w.alloc (.cells zeroDS 38)).cell? ⟨g, i, none⟩ = some (.int .u8 (f i))) := fun i hi => (World.cell?_alloc_past _ _ _ hgl).trans (HZ.out i hi)
  go_enter Ybad.func4, Ybad.ntmps4
  go_wp2_with (go_at_call 5; refine (key_ok bd g n cap o e f _ (by go_simp) (by go_simp) (by go_simp) hoe hen hn hnc HZ1.out HB.out hgb).mono ?_; rintro r w' ⟨v, q1, q2, w1, rfl, hC, rfl⟩; obtain ⟨⟨ao, cp, rfl⟩, ⟨z0, z1, z2, z3⟩, g0, g1, g2, g3⟩ := behind_key hbd hC; have HC := hide hC; clear hC)
  go_ret2
  refine ⟨by simp, ?_⟩
  have hs : bd < ((((w.alloc (.cells zeroDS 38)).drewN q1).setCell ⟨bd, 1, none⟩ (.int .i64 (o + 2))).drewN q2).heap.size := by
    have : ((((w.alloc (.cells zeroDS 38)).drewN q1).setCell ⟨bd, 1, none⟩ (.int .i64 (o + 2))).drewN q2).heap.size = (((w.alloc (.cells zeroDS 38)).drewN q1).setCell ⟨bd, 1, none⟩ (.int .i64 (o + 2))).heap.size := rfl
    rw [this, World.size_setCell]
    show bd < (w.alloc (.cells zeroDS 38)).heap.size
    rw [World.size_alloc]; omega
  refine dec_end hbd ⟨.int .i64 (o + 2), (HC.out.cell bd 1 hs).trans ?_⟩ HC.out z0 z1 z2 z3
  exact World.cell?_setCell_same _ _ _ ((World.cell?_alloc_past _ _ _ hbd).trans hb1)
end Go.Proofs.YbulkcwlmDoor
