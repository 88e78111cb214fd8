/-
  key, (*iteration).firstCount; a box for a hash; what a later world keeps of an iteration.
-/
import Derived.Test.YbulkcwfoBuild
namespace Go.Proofs.Ybulkcwfo
open Go.RowKit
attribute [local go_sem ↓] op_build1 op_build3 op_slice1 op_load30
attribute [local go_sem] isH isR isI mkR_mk aggOf_agg hasRow_drew hasRow_drewN rowAt_drew rowAt_drewN hasRow_alloc rowAt_alloc

theorem It.below {w w' : World} {bit B : Nat} {v : Value} {es : List (Int × Int × Int)} (h : It w bit v es) (hb : Below B w w') (hB : w.heap.size ≤ B) : It w' bit v es := by
  have hbit : bit < w.heap.size := World.block_lt_of_cell? w _ h.cell
  refine ⟨(hb.cell (p := ⟨bit, 6, none⟩) (by show bit < B; omega)).trans h.cell, (hb.frozen (p := ⟨bit, 6, none⟩) (by show bit < B; omega)).trans h.free, h.own.1, ?_⟩
  rcases h.own.2 with h2 | ⟨g, cap, cur, hv, h3, hg, h4, h5, h6, h7⟩
  · exact .inl h2
  · refine .inr ⟨g, cap, cur, hv, h3, ?_, h4, h5, h6, h7⟩
    have hlt : g < w.heap.size := by
      rcases Nat.lt_or_ge g w.heap.size with hlt | hge
      · exact hlt
      · rw [Array.getElem?_eq_none hge] at hg; cases hg
    rw [hb.block g (by omega)]; exact hg

theorem wpList_alloc30 {w : World} {ops : Array Oper} {rest : List Oper} {o : Oper} {a : Act} {Q : Exit → Act → World → Prop} (hg : o.guard = none) (ho : o.op = .alloc 30)
    (h : ∀ W, Below w.heap.size w W → W.heap.size = w.heap.size + 1 → W.there w.heap.size 0 32 → wpList Yba.prog ops Q rest (a.put o.dst (.pointer (some ⟨w.heap.size, 0, none⟩))) W) : wpList Yba.prog ops Q (o :: rest) a w :=
  wpList_alloc hg 30 ho z32 run_alloc30 (h _ ((Below.refl _ _).alloc (Nat.le_refl _) _) (World.size_alloc _ _) fun j hj => by
    rw [Nat.zero_add]
    refine ⟨?_, World.frozen?_alloc_at _ _ _ _ rfl⟩
    rw [World.cell?_alloc_at _ _ _ _ rfl, Array.getElem?_eq_getElem (by rw [z32_size]; exact hj)]; rfl)
theorem size_setCells (b : Nat) : ∀ (vs : List Value) (o : Nat) (w : World), (w.setCells b o vs).heap.size = w.heap.size
  | [], _, _ => rfl
  | v :: r, o, w => by rw [World.setCells, size_setCells b r, World.size_setCell]
theorem below_cells {B : Nat} {a : World} (b : Nat) (hb : B ≤ b) : ∀ (vs : List Value) (o : Nat) (w : World), Below B a w → Below B a (w.setCells b o vs)
  | [], _, _, h => h
  | v :: r, o, w, h => by rw [World.setCells]; exact below_cells b hb r (o + 1) _ (h.setCell (p := ⟨b, o, none⟩) hb v)
theorem wpList_store30 {w : World} {ops : Array Oper} {rest : List Oper} {o : Oper} {a : Act} {Q : Exit → Act → World → Prop} (hg : o.guard = none) (x y : Operand) (ho : o.op = .store 30 x y) (b : Nat) (k : Int)
    (hx : a.eval x = .pointer (some ⟨b, 0, none⟩)) (hy : a.eval y = .agg (hc k).toArray) (ht : w.there b 0 32)
    (h : ∀ W, Below b w W → W.heap.size = w.heap.size → W.rangeAt b 0 (hc k) → wpList Yba.prog ops Q rest (a.put o.dst undef) W) : wpList Yba.prog ops Q (o :: rest) a w := by
  refine wpList_store_mid hg 30 x y ho b 0 (hc k).toArray hx hy (by simpa [hc_length] using ht) (by simp only [List.size_toArray, hc_length]; kernel_rfl) (all_oneCell_toArray (hc_one k)) (h _ (below_cells b (Nat.le_refl _) _ _ _ (Below.refl _ _)) (size_setCells _ _ _ _) ?_)
  exact World.rangeAt_setCells_same _ _ _ _ (by simpa [hc_length] using ht)

set_option maxHeartbeats 1000000 in
theorem key_any (ao : Option Addr) (b o len cap : Nat) (es : List (Int × Int × Int)) (pick miss : Int) (w : World) (hlen : es.length = len) (hl : len ≤ 1024) (hao : Hid (0 < len → ao = some ⟨b, o, none⟩)) (hL : Lies w b o es)
    (hwf : ∀ e ∈ es, 0 ≤ e.1 ∧ e.1 ≤ 255) (hp0 : 0 ≤ pick) (hp1 : pick ≤ 18446744073709551615) (hm0 : 0 ≤ miss) (hm1 : miss ≤ 255) :
    Calls Yba.prog 5 #[.slice ao len cap, .int .u64 pick, .int .u8 miss] w fun e w' => ∃ k : Int, e = .returned (.int .u8 k) ∧ 0 ≤ k ∧ k ≤ 255 ∧ w' = w := by
  have HL := hide hL
  have HW := hide hwf
  have HN := hide hlen
  clear hL hwf hlen
  by_cases hp : pick % 2 = 0
  · by_cases hn : 0 < len
    · obtain rfl := hao.out hn
      obtain ⟨d, hd, hdl⟩ : ∃ d : Nat, pick / 2 % (len : Int) = d ∧ d < len := by
        have h1 := Int.emod_nonneg (pick / 2) (show (len : Int) ≠ 0 by omega)
        have h2 := Int.emod_lt_of_pos (pick / 2) (show 0 < (len : Int) by omega)
        exact ⟨(pick / 2 % (len : Int)).toNat, by omega, by omega⟩
      obtain ⟨e, he⟩ : ∃ e, es[d]? = some e := ⟨_, List.getElem?_eq_getElem (by have := HN.out; omega)⟩
      have c0 := (HL.out d e he).1
      have kb := HW.out e (List.mem_of_getElem? he)
      generalize e.1 = k at c0 kb
      clear he
      go_enter Yba.func5, Yba.ntmps5
      go_wp2
      go_ret
      exact ⟨k, rfl, kb.1, kb.2, rfl⟩
    · obtain rfl : len = 0 := by omega
      go_enter Yba.func5, Yba.ntmps5
      go_wp2
      go_ret
      exact ⟨miss, rfl, hm0, hm1, rfl⟩
  · go_enter Yba.func5, Yba.ntmps5
    go_wp2
    go_ret
    exact ⟨miss, rfl, hm0, hm1, rfl⟩

set_option maxRecDepth 100000 in
set_option maxHeartbeats 1000000 in
theorem fc_hit (bit g n cap : Nat) (es : List (Int × Int × Int)) (k : Int) (i : Nat) (e : Int × Int × Int) (w : World) (hk0 : 0 ≤ k) (hk1 : k ≤ 255) (hI : It w bit (.slice (some ⟨g, 0, none⟩) n cap) es) (hn : n ≤ 1048576) (hlen : es.length = n)
    (hwf : ∀ e ∈ es, 0 ≤ e.1 ∧ e.1 ≤ 255) (hi : i < n) (he : es[i]? = some e) (hek : e.1 = k) (hmiss : ∀ j e, j < i → es[j]? = some e → e.1 ≠ k) :
    Calls Yba.prog 9 #[.pointer (some ⟨bit, 0, none⟩), .agg (hc k).toArray] w fun r w' => r = .returned (.int .i64 e.2.1) ∧ ∃ q, w' = ((w.alloc (.cells (hc k).toArray 30)).alloc (.cells (hc k).toArray 30)).drewN q := by
  have HI := hide hI
  have HW := hide hwf
  have HM := hide hmiss
  have HL := hide hlen
  have HE := hide he
  have HK := hide hek
  have hcnt : w.cell? ⟨g, i * 34 + 32, none⟩ = some (.int .i64 e.2.1) := by
    have hO := hI.own
    rw [hlen] at hO
    refine own_cells hO _ _ ?_
    rw [flat_get es i 32 e he (by omega)]
    unfold rc
    rw [List.getElem?_append_right (by rw [hc_length]; omega), hc_length]; rfl
  clear hI hwf hmiss hlen he hek
  have hgl : g < w.heap.size := World.block_lt_of_cell? w _ hcnt
  go_enter Yba.func9, Yba.ntmps9
  go_wp2_with (first | (refine wpList_load30 rfl _ rfl w.heap.size 0 rfl k (box_range w k) ?_))
  refine (first_hit bit g n cap es k i _ hk0 hk1 (HI.out.alloc _) hn HL.out HW.out hi (fun e' he' => by rw [HE.out] at he'; cases he'; exact HK.out) HM.out).mono ?_
  rintro r w' ⟨rfl, q, rfl⟩
  go_wp2
  go_ret
  exact ⟨rfl, q, rfl⟩

set_option maxRecDepth 100000 in
set_option maxHeartbeats 1000000 in
theorem fc_miss (bit g n cap : Nat) (ao : Option Addr) (es : List (Int × Int × Int)) (k : Int) (w : World) (hk0 : 0 ≤ k) (hk1 : k ≤ 255) (hao : Hid (0 < n → ao = some ⟨g, 0, none⟩)) (hI : It w bit (.slice ao n cap) es) (hn : n ≤ 1048576) (hlen : es.length = n)
    (hwf : ∀ e ∈ es, 0 ≤ e.1 ∧ e.1 ≤ 255) (hmiss : ∀ j e, j < n → es[j]? = some e → e.1 ≠ k) :
    Calls Yba.prog 9 #[.pointer (some ⟨bit, 0, none⟩), .agg (hc k).toArray] w fun r w' => r = .returned (.int .i64 0) ∧ ∃ q, w' = ((w.alloc (.cells (hc k).toArray 30)).alloc (.cells (hc k).toArray 30)).drewN q := by
  have HI := hide hI
  have HW := hide hwf
  have HM := hide hmiss
  have HL := hide hlen
  clear hI hwf hmiss hlen
  go_enter Yba.func9, Yba.ntmps9
  go_wp2_with (first | (refine wpList_load30 rfl _ rfl w.heap.size 0 rfl k (box_range w k) ?_))
  refine (first_miss bit g n cap ao es k _ hk0 hk1 hao (HI.out.alloc _) hn HL.out HW.out HM.out).mono ?_
  rintro r w' ⟨rfl, q, rfl⟩
  go_wp2
  go_ret
  exact ⟨rfl, q, rfl⟩

end Go.Proofs.Ybulkcwfo
