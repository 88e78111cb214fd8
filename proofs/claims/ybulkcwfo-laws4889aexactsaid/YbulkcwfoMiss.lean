/-
  (*iteration).counts where it adds: what it spares.
-/
import Derived.Test.YbulkcwfoLib
import Derived.Deep.RegionLaw
import Derived.Deep.AppendLies
namespace Go.Proofs.Ybulkcwfo
open Go.RowKit
attribute [local go_sem ↓] op_build1 op_build3 op_slice1 op_load30
attribute [local go_sem] isH isR isI mkR_mk aggOf_agg hasRow_drew hasRow_drewN rowAt_drew rowAt_drewN hasRow_alloc rowAt_alloc

/-- All old blocks but the iteration's own and the old row are as they were; the new row is the old one or new. -/
def Spared (bit : Nat) (v : Value) (g' : Nat) (w w' : World) : Prop :=
  w.heap.size ≤ w'.heap.size ∧ (some g' = v.ownBlock ∨ w.heap.size ≤ g') ∧ ∀ b, b < w.heap.size → b ≠ bit → some b ≠ v.ownBlock → w'.heap[b]? = w.heap[b]?

set_option maxRecDepth 100000 in
set_option maxHeartbeats 1000000 in
theorem counts_miss2 (bit g n cap : Nat) (ao : Option Addr) (es : List (Int × Int × Int)) (k : Int) (w : World) (hk0 : 0 ≤ k) (hk1 : k ≤ 255) (hao : Hid (0 < n → ao = some ⟨g, 0, none⟩)) (hI : It w bit (.slice ao n cap) es) (hn : n ≤ 1048576) (hlen : es.length = n)
    (hwf : ∀ e ∈ es, 0 ≤ e.1 ∧ e.1 ≤ 255) (hmiss : ∀ j e, j < n → es[j]? = some e → e.1 ≠ k) :
    Calls Yba.prog 8 #[.pointer (some ⟨bit, 0, none⟩), .agg (hc k).toArray] w fun e w' => ∃ g' cap', e = .returned (.pointer (some ⟨g', n * 34, none⟩)) ∧ It w' bit (.slice (some ⟨g', 0, none⟩) (n + 1) cap') (es ++ [(k, 0, 0)]) ∧ Below bit w w' ∧ Spared bit (.slice ao n cap) g' w w' := by
  have HI := hide hI
  have HW := hide hwf
  have HM := hide hmiss
  have HL := hide hlen
  clear hI hwf hmiss hlen
  go_enter Yba.func8, Yba.ntmps8
  go_wp2_with (first | (refine wpList_load30 rfl _ rfl w.heap.size 0 rfl k (box_range w k) ?_))
  refine (first_miss bit g n cap ao es k _ hk0 hk1 hao (HI.out.alloc _) hn HL.out HW.out HM.out).mono ?_
  rintro e w' ⟨rfl, q, rfl⟩
  go_wp2
  obtain ⟨i0, z0, hi, hz0, hz1, hz2, hz3⟩ := info45
  have hbit : bit < w.heap.size := World.block_lt_of_cell? w _ HI.out.cell
  obtain ⟨W, hWI, hWr, hWB, hWs⟩ : ∃ W, It W bit (.slice ao n cap) es ∧ W.rangeAt w.heap.size 0 (hc k) ∧ Below w.heap.size w W ∧ W = ((w.alloc (.cells (hc k).toArray 30)).alloc (.cells (hc k).toArray 30)).drewN q :=
    ⟨_, ((HI.out.alloc _).alloc _).drewN q, World.rangeAt_alloc (box_range w k) _, below_draws (((Below.refl _ _).alloc (Nat.le_refl _) _).alloc (by simp) _) q, rfl⟩
  rw [← hWs]
  have hWz : w.heap.size < W.heap.size := by rw [hWs]; simp; omega
  clear hWs
  have c6 := hWI.cell
  have f6 := hWI.free
  have HOW : Hid (W.ownsRow (bit + 1) 45 34 (.slice ao n cap) n (flat es)) := by have := hWI.own; rw [HL.out] at this; exact this
  have HWI := hide hWI
  have HWB := hide hWB
  have hrow : HasRow W (.pointer (some ⟨w.heap.size, 0, none⟩)) 32 := by have := hasRow_of hWr; rwa [hc_length] at this
  have hrowv : rowAt W (.pointer (some ⟨w.heap.size, 0, none⟩)) 32 = hc k := by have := rowAt_eq hWr; rwa [hc_length] at this
  have hne : Hid (some w.heap.size ≠ (Value.slice ao n cap).ownBlock) := own_lt (by have := HI.out.own; exact this) w.heap.size (Nat.le_refl _)
  have hbW : bit < W.heap.size := by omega
  have hneb : Hid (some bit ≠ (Value.slice ao n cap).ownBlock) := fun he => by have := (HI.out.own.lt bit he.symm).1; omega
  clear hWI hWB hWr
  go_region_law (refine step_append_lies _ rfl _ _ 41 rfl (bit + 1) 45 i0 z0 34 48 Yba.underlying41 hi hz0 hz1 hz2 hz3 (by decide) (.slice ao n cap) n (flat es) rfl (HOW.out.alloc _) ⟨W.heap.size, 0, none⟩ 1 1 (rc (k, 0, 0)) rfl (by rw [rc_length]) (fun j u hj => by rw [Addr.add_mid, Nat.zero_add]; exact (World.cell?_alloc_at _ _ _ _ rfl).trans (by simpa using hj)) (rc_one _) (by decide) (by unfold maxLen; omega) (by omega) (by simp; omega) _ rfl ?_; intro g' cap' w1 hown hgrow hat hlt; have q1 : w1.cell? ⟨bit, 6, none⟩ = some (.slice ao n cap) := hgrow.cell ((World.cell?_alloc_past _ _ _ hbW).trans c6) hneb.out; have q2 : w1.frozen? ⟨bit, 6, none⟩ = false := (World.frozen?_of_block (hgrow.block bit (by simp; omega) hneb.out)).trans ((World.frozen?_alloc_past _ _ _ hbW).trans f6))
  all_goals
    have HOWN := hide hown
    have HGR := hide hgrow
    clear hown hgrow
    go_wp2
    go_quiet (fail)
    go_wp2
    go_ret
    refine ⟨g', cap', rfl, ⟨?_, ?_, ?_⟩, ?_, ?_⟩
    · exact World.cell?_setCell_same _ _ _ q1
    · exact (World.frozen?_setCell _ _ _ _).trans q2
    · have := ownsRow_setCell_below HOWN.out (a := ⟨bit, 6, none⟩) (by simp) (.slice (some ⟨g', 0, none⟩) (n + 1) cap')
      rw [flat_snoc, List.length_append, HL.out]
      exact this
    · refine below_draws (Below.setCell (Below.grown ((HWB.out.mono (Nat.le_of_lt hbit)).alloc (by omega) _).drew HGR.out (by simp; omega) (fun r hr => by have := (HOW.out.lt r hr).1; omega)) (by simp) _) _
    · refine ⟨?_, ?_, ?_⟩
      · have h1 := HGR.out.size
        have h2 : (W.alloc (.cells (rc (k, 0, 0)).toArray 45)).drew.heap.size = W.heap.size + 1 := World.size_alloc _ _
        show w.heap.size ≤ (w1.setCell ⟨bit, 6, none⟩ _).heap.size
        rw [World.size_setCell]
        omega
      · rcases hat with h | h
        · exact .inl h.symm
        · refine .inr ?_
          simp at h; omega
      · intro b hb hne1 hne2
        show (w1.setCell ⟨bit, 6, none⟩ _).heap[b]? = _
        rw [Below.heap_setCell _ _ _ b (fun e => hne1 e), HGR.out.block b (by simp; omega) hne2]
        exact (heap_alloc_old W _ (show b < W.heap.size by omega)).trans (HWB.out.block b hb)

end Go.Proofs.Ybulkcwfo
