/-
  (*iteration).counts.
-/
import Derived.Test.YbulkcwfoRules
import Derived.Deep.RegionLaw
import Derived.Deep.AppendLies
namespace Go.Proofs.Ybulkcwfo
open Go.RowKit
attribute [local go_sem ↓] op_build1 op_build3 op_slice1 op_load30
attribute [local go_sem] isH isR isI mkR_mk aggOf_agg hasRow_drew hasRow_drewN rowAt_drew rowAt_drewN hasRow_alloc rowAt_alloc

theorem below_draws {B : Nat} {w W : World} (h : Below B w W) (q : Nat) : Below B w (W.drewN q) := ⟨h.os, h.tape, h.output, h.size, h.block⟩
theorem It.alloc {w : World} {bit : Nat} {v : Value} {es : List (Int × Int × Int)} (h : It w bit v es) (o : Obj) : It (w.alloc o) bit v es := by
  have hb : bit < w.heap.size := World.block_lt_of_cell? w _ h.cell
  exact ⟨(World.cell?_alloc_past _ _ _ hb).trans h.cell, (World.frozen?_alloc_past _ _ _ hb).trans h.free, h.own.alloc o⟩
theorem It.drewN {w : World} {bit : Nat} {v : Value} {es : List (Int × Int × Int)} (h : It w bit v es) (q : Nat) : It (w.drewN q) bit v es := ⟨h.cell, h.free, h.own⟩

theorem wpList_load30 {w : World} {ops : Array Oper} {rest : List Oper} {o : Oper} {a : Act} {Q : Exit → Act → World → Prop} (hg : o.guard = none) (x : Operand) (ho : o.op = .load 30 x) (b off : Nat) (hx : a.eval x = .pointer (some ⟨b, off, none⟩))
    (k : Int) (hr : w.rangeAt b off (hc k)) (h : wpList Yba.prog ops Q rest (a.put o.dst (.agg (hc k).toArray)) w) : wpList Yba.prog ops Q (o :: rest) a w :=
  wpList_load_mid hg 30 x ho b off hx (hc k) (.array 32 5) hr Yba.underlying30 rfl (by rw [hc_length]; kernel_rfl) h
theorem box_range (w : World) (k : Int) : (w.alloc (.cells (hc k).toArray 30)).rangeAt w.heap.size 0 (hc k) := fun j v hv => by
  rw [Nat.zero_add, World.cell?_alloc_at _ _ _ _ rfl]; simpa using hv

set_option maxRecDepth 100000 in
set_option maxHeartbeats 1000000 in
theorem counts_hit (bit g n cap : Nat) (es : List (Int × Int × Int)) (k : Int) (i : Nat) (w : World) (hk0 : 0 ≤ k) (hk1 : k ≤ 255) (hI : It w bit (.slice (some ⟨g, 0, none⟩) n cap) es) (hn : n ≤ 1048576) (hlen : es.length = n)
    (hwf : ∀ e ∈ es, 0 ≤ e.1 ∧ e.1 ≤ 255) (hi : i < n) (hhit : ∀ e, es[i]? = some e → e.1 = k) (hmiss : ∀ j e, j < i → es[j]? = some e → e.1 ≠ k) :
    Calls Yba.prog 8 #[.pointer (some ⟨bit, 0, none⟩), .agg (hc k).toArray] w fun e w' => e = .returned (.pointer (some ⟨g, i * 34, none⟩)) ∧ ∃ q, w' = ((w.alloc (.cells (hc k).toArray 30)).alloc (.cells (hc k).toArray 30)).drewN q := by
  have HI := hide hI
  have HW := hide hwf
  have HH := hide hhit
  have HM := hide hmiss
  have HL := hide hlen
  clear hI hwf hhit hmiss hlen
  go_enter Yba.func8, Yba.ntmps8
  go_wp2_with (first | (refine wpList_load30 rfl _ rfl w.heap.size 0 rfl k (box_range w k) ?_))
  refine (first_hit bit g n cap es k i _ hk0 hk1 (HI.out.alloc _) hn HL.out HW.out hi HH.out HM.out).mono ?_
  rintro e w' ⟨rfl, q, rfl⟩
  go_wp2
  go_ret
  exact ⟨rfl, q, rfl⟩

theorem info45 : ∃ (i : TypeInfo) (z : Value), Yba.prog.info? 45 = some i ∧ i.zero = some z ∧ i.size = 34 ∧ i.bytes = 48 ∧ z.cells.size = 34 := by
  have h : (Yba.prog.info? 45).map (fun i => (i.size, i.bytes, i.zero.map (·.cells.size))) = some (34, 48, some 34) := by kernel_rfl
  cases hi : Yba.prog.info? 45 with
  | none => rw [hi] at h; cases h
  | some i =>
    rw [hi] at h
    simp at h
    obtain ⟨h1, h2, z, h3, h4⟩ := h
    exact ⟨i, z, rfl, h3, h1, h2, h4⟩

theorem range_grown {w w' : World} {row : Option Nat} {b o : Nat} {cs : List Value} (h : w.rangeAt b o cs) (hg : w.grownBy w' row) (hne : some b ≠ row) : w'.rangeAt b o cs := fun j v hv => hg.cell (h j v hv) hne
theorem range_setCell {w : World} {b o b' i : Nat} {cs : List Value} {u : Value} (h : w.rangeAt b o cs) (hne : b' ≠ b) : (w.setCell ⟨b', i, none⟩ u).rangeAt b o cs := fun j v hv => by
  rw [World.cell?_setCell_other _ _ _ _ (by intro e; cases e; exact hne rfl)]; exact h j v hv
theorem own_lt {w : World} {base e size n : Nat} {v : Value} {xs : List Value} (h : w.ownsRow base e size v n xs) (b : Nat) (hb : w.heap.size ≤ b) : some b ≠ v.ownBlock := by
  intro he
  have := (h.lt b he.symm).2
  omega

theorem flat_snoc (es : List (Int × Int × Int)) (e : Int × Int × Int) : flat (es ++ [e]) = flat es ++ rc e := by simp [flat]

set_option maxRecDepth 100000 in
set_option maxHeartbeats 1000000 in
theorem counts_miss (bit g n cap : Nat) (ao : Option Addr) (es : List (Int × Int × Int)) (k : Int) (w : World) (hk0 : 0 ≤ k) (hk1 : k ≤ 255) (hao : Hid (0 < n → ao = some ⟨g, 0, none⟩)) (hI : It w bit (.slice ao n cap) es) (hn : n ≤ 1048576) (hlen : es.length = n)
    (hwf : ∀ e ∈ es, 0 ≤ e.1 ∧ e.1 ≤ 255) (hmiss : ∀ j e, j < n → es[j]? = some e → e.1 ≠ k) :
    Calls Yba.prog 8 #[.pointer (some ⟨bit, 0, none⟩), .agg (hc k).toArray] w fun e w' => ∃ g' cap', e = .returned (.pointer (some ⟨g', n * 34, none⟩)) ∧ It w' bit (.slice (some ⟨g', 0, none⟩) (n + 1) cap') (es ++ [(k, 0, 0)]) ∧ Below bit w w' := by
  have HI := hide hI
  have HW := hide hwf
  have HM := hide hmiss
  have HL := hide hlen
  clear hI hwf hmiss hlen
  go_enter Yba.func8, Yba.ntmps8
  go_wp2_with (first | (refine wpList_load30 rfl _ rfl w.heap.size 0 rfl k (box_range w k) ?_))
  refine (first_miss bit g n cap ao es k _ hk0 hk1 hao (HI.out.alloc _) hn HL.out HW.out HM.out).mono ?_
  rintro e w' ⟨rfl, q, rfl⟩
  go_wp2
  obtain ⟨i0, z0, hi, hz0, hz1, hz2, hz3⟩ := info45
  have hbit : bit < w.heap.size := World.block_lt_of_cell? w _ HI.out.cell
  obtain ⟨W, hWI, hWr, hWB, hWs⟩ : ∃ W, It W bit (.slice ao n cap) es ∧ W.rangeAt w.heap.size 0 (hc k) ∧ Below w.heap.size w W ∧ W = ((w.alloc (.cells (hc k).toArray 30)).alloc (.cells (hc k).toArray 30)).drewN q :=
    ⟨_, ((HI.out.alloc _).alloc _).drewN q, World.rangeAt_alloc (box_range w k) _, below_draws (((Below.refl _ _).alloc (Nat.le_refl _) _).alloc (by simp) _) q, rfl⟩
  rw [← hWs]
  have hWz : w.heap.size < W.heap.size := by rw [hWs]; simp; omega
  clear hWs
  have c6 := hWI.cell
  have f6 := hWI.free
  have HOW : Hid (W.ownsRow (bit + 1) 45 34 (.slice ao n cap) n (flat es)) := by have := hWI.own; rw [HL.out] at this; exact this
  have HWI := hide hWI
  have HWB := hide hWB
  have hrow : HasRow W (.pointer (some ⟨w.heap.size, 0, none⟩)) 32 := by have := hasRow_of hWr; rwa [hc_length] at this
  have hrowv : rowAt W (.pointer (some ⟨w.heap.size, 0, none⟩)) 32 = hc k := by have := rowAt_eq hWr; rwa [hc_length] at this
  have hne : Hid (some w.heap.size ≠ (Value.slice ao n cap).ownBlock) := own_lt (by have := HI.out.own; exact this) w.heap.size (Nat.le_refl _)
  have hbW : bit < W.heap.size := by omega
  have hneb : Hid (some bit ≠ (Value.slice ao n cap).ownBlock) := fun he => by have := (HI.out.own.lt bit he.symm).1; omega
  clear hWI hWB hWr
  go_region_law (refine step_append_lies _ rfl _ _ 41 rfl (bit + 1) 45 i0 z0 34 48 Yba.underlying41 hi hz0 hz1 hz2 hz3 (by decide) (.slice ao n cap) n (flat es) rfl (HOW.out.alloc _) ⟨W.heap.size, 0, none⟩ 1 1 (rc (k, 0, 0)) rfl (by rw [rc_length]) (fun j u hj => by rw [Addr.add_mid, Nat.zero_add]; exact (World.cell?_alloc_at _ _ _ _ rfl).trans (by simpa using hj)) (rc_one _) (by decide) (by unfold maxLen; omega) (by omega) (by simp; omega) _ rfl ?_; intro g' cap' w1 hown hgrow hat hlt; have q1 : w1.cell? ⟨bit, 6, none⟩ = some (.slice ao n cap) := hgrow.cell ((World.cell?_alloc_past _ _ _ hbW).trans c6) hneb.out; have q2 : w1.frozen? ⟨bit, 6, none⟩ = false := (World.frozen?_of_block (hgrow.block bit (by simp; omega) hneb.out)).trans ((World.frozen?_alloc_past _ _ _ hbW).trans f6))
  all_goals
    have HOWN := hide hown
    have HGR := hide hgrow
    clear hown hgrow
    go_wp2
    go_quiet (fail)
    go_wp2
    go_ret
    refine ⟨g', cap', rfl, ⟨?_, ?_, ?_⟩, ?_⟩
    · exact World.cell?_setCell_same _ _ _ q1
    · exact (World.frozen?_setCell _ _ _ _).trans q2
    · have := ownsRow_setCell_below HOWN.out (a := ⟨bit, 6, none⟩) (by simp) (.slice (some ⟨g', 0, none⟩) (n + 1) cap')
      rw [flat_snoc, List.length_append, HL.out]
      exact this
    · refine below_draws (Below.setCell (Below.grown ((HWB.out.mono (Nat.le_of_lt hbit)).alloc (by omega) _).drew HGR.out (by simp; omega) (fun r hr => by have := (HOW.out.lt r hr).1; omega)) (by simp) _) _

end Go.Proofs.Ybulkcwfo
