/-
  LawS4889ACounted: the walk.
-/
import Derived.Test.YbulkcwfoBump
import Derived.Test.YbulkcwfoMiss
import Derived.LaidEqlPtr
namespace Go.Proofs.Ybulkcwfo
open Go.RowKit

theorem two_boxes {w w' : World} {X Y : Obj} {q : Nat} (h : w' = ((w.alloc X).alloc Y).drewN q) : Below w.heap.size w w' := by
  rw [h]; exact below_draws (((Below.refl _ _).alloc (Nat.le_refl _) _).alloc (by simp) _) q
theorem range_below {w w' : World} {B b o : Nat} {cs : List Value} (h : w.rangeAt b o cs) (hb : Below B w w') (hlt : b < B) : w'.rangeAt b o cs := fun j v hv => (hb.cell (p := ⟨b, o + j, none⟩) hlt).trans (h j v hv)

theorem ptr_neq (a : Addr) (w : World) : (binOp .neq 32 (.pointer (some a)) (.pointer (some a))).run Yba.prog w = .ok (.bool false) w := by
  obtain ⟨i0, z0, hi, _⟩ := info45
  have h : ∀ d : Nat, (Op.equalIn (d + 1) 32 (.pointer (some a)) (.pointer (some a))).run Yba.prog w = .ok true w := fun d => by
    simp [Op.equalIn, run_underlying Yba.underlying32, sizeOf, typeInfo, hi, run_sameAddr_same]
  simp only [binOp]
  simp [Op.equal, Op.maxDepth, h 9999]

/-- What came in. -/
structure Came4889 (w : World) (ao : Option Addr) (b o len : Nat) (es : List (Int × Int × Int)) : Prop where
  length : es.length = len
  le : len ≤ 1024
  addr : 0 < len → ao = some ⟨b, o, none⟩
  lt : 0 < len → b < w.heap.size
  lies : Lies w b o es
  wf : ∀ e ∈ es, 0 ≤ e.1 ∧ e.1 ≤ 255

set_option maxRecDepth 100000 in
set_option maxHeartbeats 4000000 in
theorem counted (ao : Option Addr) (b o len cap : Nat) (es : List (Int × Int × Int)) (pick miss : Int) (w : World) (hC : Came4889 w ao b o len es)
    (hp0 : 0 ≤ pick) (hp1 : pick ≤ 18446744073709551615) (hm0 : 0 ≤ miss) (hm1 : miss ≤ 255) :
    Calls Yba.prog 4 #[.slice ao len cap, .int .u64 pick, .int .u8 miss] w fun e w' => e = .returned (.bool true) ∧ Below w.heap.size w w' := by
  have hle := hC.le
  have HC := hide hC
  clear hC
  have hpn := ptr_neq
  go_enter Yba.func4, Yba.ntmps4
  go_wp2_with (first
    | (go_at_call 5; refine (key_any ao b o len cap es pick miss _ HC.out.length hle HC.out.addr HC.out.lies HC.out.wf hp0 hp1 hm0 hm1).mono ?_; rintro r w' ⟨k, rfl, hk0, hk1, rfl⟩)
    | (go_at_call 6; refine (build_any ao b o len cap es _ HC.out.length hle HC.out.addr HC.out.lt HC.out.lies).mono ?_; rintro r w1 ⟨v, rfl, hI, hB⟩; have HI := hide hI; have HB := hide hB; clear hI hB)
    | (go_at_call 7; refine (hash_any k _).mono ?_; rintro r w2 ⟨rfl, hB2⟩; have HB2 := hide hB2; clear hB2)
    | (refine wpList_alloc30 rfl rfl ?_; intro W3 hBa hsa hth; have HBA := hide hBa; have HSA := hide hsa; have HTH := hide hth; clear hBa hsa hth)
    | (refine wpList_store30 rfl _ _ rfl w2.heap.size k rfl rfl HTH.out ?_; intro W4 hBs hss hR; have HBS := hide hBs; have HSS := hide hss; have HR := hide hR; clear hBs hss hR)
    | (refine wpList_load30 rfl _ rfl w2.heap.size 0 rfl k HR.out ?_))
  have hI2 : It w2 w'.heap.size v es := HI.out.below HB2.out (Nat.le_refl _)
  have hB4 : Below w2.heap.size w2 W4 := HBA.out.trans HBS.out
  have hI4 : It W4 w'.heap.size v es := hI2.below hB4 (Nat.le_refl _)
  have hz4 : W4.heap.size = w2.heap.size + 1 := HSS.out.trans HSA.out
  have hz12 : w1.heap.size ≤ w2.heap.size := HB2.out.size
  have hz01 : w'.heap.size < w1.heap.size := World.block_lt_of_cell? w1 _ HI.out.cell
  have hB04 : Below w'.heap.size w' W4 := HB.out.trans ((HB2.out.mono (by omega)).trans (hB4.mono (by omega)))
  obtain ⟨vo, g, vcap, hv, hvo, _⟩ := own_shape hI4.own
  rw [HC.out.length] at hv hvo
  have hlen := HC.out.length
  have hwf := HC.out.wf
  have HG2 : Hid (∀ r, v.ownBlock = some r → r < w2.heap.size) := fun r hr => (hI2.own.lt r hr).2
  clear HI HB HB2 HBA HSA HTH HBS HSS hI2 hB4 HC
  have HW := hide hwf
  have HL := hide hlen
  have HB04 := hide hB04
  clear hwf hlen hB04
  rcases first_at es k with ⟨i, e, he, hek, hmiss⟩ | hmiss
  · have hil : i < len := by have := (List.getElem?_eq_some_iff.1 he).1; have := HL.out; omega
    obtain rfl := hvo (by omega)
    subst hv
    have HE := hide he
    have HK := hide hek
    have HM := hide hmiss
    clear he hek hmiss hvo
    refine (fc_hit w'.heap.size g len vcap es k i e W4 hk0 hk1 hI4 (by omega) HL.out HW.out hil HE.out HK.out HM.out).mono ?_
    rintro r w5 ⟨rfl, q5, hw5⟩
    have hB5 := two_boxes hw5
    have hI5 : It w5 w'.heap.size _ es := hI4.below hB5 (Nat.le_refl _)
    have hR5 : w5.rangeAt w2.heap.size 0 (hc k) := range_below HR.out hB5 (by omega)
    have hz5 : W4.heap.size ≤ w5.heap.size := hB5.size
    have HB05 : Hid (Below w'.heap.size w' w5) := HB04.out.trans (hB5.mono (by omega))
    have HI5 := hide hI5
    have HR5 := hide hR5
    clear hw5 hB5 hI5 hR5 hI4 HR HB04 q5
    go_wp2_with (first | (refine wpList_load30 rfl _ rfl w2.heap.size 0 rfl k HR5.out ?_) | (go_at_call 8; refine (counts_hit w'.heap.size g len vcap es k i _ hk0 hk1 HI5.out (by omega) HL.out HW.out hil (fun e' he' => by rw [HE.out] at he'; cases he'; exact HK.out) HM.out).mono ?_; rintro r w6 ⟨rfl, q6, hw6⟩; have HW6 := hide hw6; clear hw6))
    have hB6 := two_boxes HW6.out
    have HI6 : Hid (It w6 w'.heap.size (.slice (some ⟨g, 0, none⟩) len vcap) es) := HI5.out.below hB6 (Nat.le_refl _)
    have HR6 : Hid (w6.rangeAt w2.heap.size 0 (hc k)) := range_below HR5.out hB6 (by omega)
    have HB06 : Hid (Below w'.heap.size w' w6) := HB05.out.trans (hB6.mono (by omega))
    have hgbx : g ≠ w2.heap.size := by have := HG2.out g rfl; omega
    have hz6 : w2.heap.size < w6.heap.size := by have := hB6.size; omega
    clear hB6 HI5 HR5 HB05 HW6
    have l1 : w6.rangeAt g (i * 34) (hc k) := by
      have h1 := HI6.out.own
      rw [HL.out] at h1
      have := own_hash h1 i _ HE.out
      rw [HK.out] at this
      exact this
    refine wp_region_quiet_lit (by kernel_rfl) (by kernel_rfl) ?_
    repeat (go_big_quiet_step (fail))
    refine quietw_load30 (by rfl) _ rfl g (i * 34) rfl k (fun w' ⟨n, hn⟩ => by rw [hn]; exact l1) ?_
    refine quietw_load30 (by rfl) _ rfl w2.heap.size 0 rfl k (fun w' ⟨n, hn⟩ => by rw [hn]; exact HR6.out) ?_
    refine quietw_neq30 (by rfl) _ _ _ rfl k rfl rfl hk0 hk1 ?_
    simp only [Act.put, List.setIfInBounds_toArray, List.set_cons_zero, List.set_cons_succ]
    repeat (go_big_quiet_step (fail))
    refine wpQuiet_nil ?_
    rintro _ ⟨nq, rfl⟩
    try simp only [Act.put, List.setIfInBounds_toArray, List.set_cons_zero, List.set_cons_succ]
    have c6 := HI6.out.cell
    have cc : w6.cell? ⟨g, i * 34 + 32, none⟩ = some (.int .i64 e.2.1) := own_count HI6.out HL.out i _ HE.out
    have cf : w6.frozen? ⟨g, i * 34 + 32, none⟩ = false := by
      have h1 := HI6.out.own
      rw [HL.out] at h1
      exact own_free h1 _
    have hbg : w'.heap.size ≠ g := by have := (HI6.out.own.lt g rfl).1; omega
    have HI7 : Hid (It ((w6.drewN nq).setCell ⟨g, i * 34 + 32, none⟩ (.int .i64 (wrap64 (e.2.1 + 1)))) w'.heap.size (.slice (some ⟨g, 0, none⟩) len vcap) (es.set i (k, (wrap64 (e.2.1 + 1)), e.2.2))) := by
      have := (HI6.out.drewN nq).bump i e HE.out (wrap64 (e.2.1 + 1))
      rw [HK.out] at this
      exact this
    have HR7 : Hid (((w6.drewN nq).setCell ⟨g, i * 34 + 32, none⟩ (.int .i64 (wrap64 (e.2.1 + 1)))).rangeAt w2.heap.size 0 (hc k)) := range_setCell (show (w6.drewN nq).rangeAt w2.heap.size 0 (hc k) from HR6.out) hgbx
    have HL7 : Hid ((es.set i (k, (wrap64 (e.2.1 + 1)), e.2.2)).length = len) := by rw [Hid, List.length_set]; exact HL.out
    have HE7 : Hid ((es.set i (k, (wrap64 (e.2.1 + 1)), e.2.2))[i]? = some (k, (wrap64 (e.2.1 + 1)), e.2.2)) := List.getElem?_set_self (by have := HL.out; omega)
    have HM7 : Hid (∀ (j : Nat) (z : Int × Int × Int), j < i → (es.set i (k, (wrap64 (e.2.1 + 1)), e.2.2))[j]? = some z → z.1 ≠ k) := fun j z hj hje => by
      rw [List.getElem?_set_ne (by omega)] at hje
      exact HM.out j z hj hje
    have HW7 : Hid (∀ z ∈ es.set i (k, (wrap64 (e.2.1 + 1)), e.2.2), 0 ≤ z.1 ∧ z.1 ≤ 255) := fun z he => by
      rcases List.mem_or_eq_of_mem_set he with h | h
      · exact HW.out z h
      · rw [h]; exact ⟨hk0, hk1⟩
    have HB07 : Hid (Below w'.heap.size w' ((w6.drewN nq).setCell ⟨g, i * 34 + 32, none⟩ (.int .i64 (wrap64 (e.2.1 + 1))))) := Below.setCell (p := ⟨g, i * 34 + 32, none⟩) (below_draws HB06.out nq) (by have := (HI6.out.own.lt g rfl).1; show w'.heap.size ≤ g; omega) _
    have hil6 : i < len := by omega
    have hbx7 : w2.heap.size < ((w6.drewN nq).setCell ⟨g, i * 34 + 32, none⟩ (.int .i64 (wrap64 (e.2.1 + 1)))).heap.size := by
      have : ((w6.drewN nq).setCell ⟨g, i * 34 + 32, none⟩ (.int .i64 (wrap64 (e.2.1 + 1)))).heap.size = w6.heap.size := World.size_setCell _ _ _
      omega
    have HBX7 := hide hbx7
    clear hbx7
    go_wp2_with (first | (refine wpList_load30 rfl _ rfl w2.heap.size 0 rfl k HR7.out ?_))
    refine (counts_hit w'.heap.size g len vcap _ k i _ hk0 hk1 HI7.out (by omega) HL7.out HW7.out hil6 (fun e' he' => by rw [HE7.out] at he'; cases he'; rfl) HM7.out).mono ?_
    rintro r w8 ⟨rfl, q8, hw8⟩
    have hB8 := two_boxes hw8
    have hI8 := HI7.out.below hB8 (Nat.le_refl _)
    have hR8 := range_below HR7.out hB8 HBX7.out
    have d8 := hI8.cell
    have HB8 := hide hB8
    have HI8 := hide hI8
    have HR8 := hide hR8
    clear hw8 hB8 hI8 hR8
    go_wp2_with (first | (refine wpList_load30 rfl _ rfl w2.heap.size 0 rfl k HR8.out ?_))
    refine (fc_hit w'.heap.size g len vcap _ k i _ _ hk0 hk1 HI8.out (by omega) HL7.out HW7.out hil6 HE7.out rfl HM7.out).mono ?_
    rintro r w9 ⟨rfl, q9, hw9⟩
    have HB9 : Hid (Below w8.heap.size w8 w9) := two_boxes hw9
    clear hw9
    go_wp2
    go_ret
    refine ⟨by simp, HB07.out.trans ((HB8.out.mono ?_).trans (HB9.out.mono ?_))⟩
    · exact HB07.out.size
    · exact Nat.le_trans HB07.out.size HB8.out.size
  · subst hv
    have HM : Hid (∀ (j : Nat) (z : Int × Int × Int), j < len → es[j]? = some z → z.1 ≠ k) := fun j z _ h => hmiss j z h
    have HVO : Hid (0 < len → vo = some ⟨g, 0, none⟩) := hvo
    clear hmiss hvo
    refine (fc_miss w'.heap.size g len vcap vo es k W4 hk0 hk1 HVO hI4 (by omega) HL.out HW.out HM.out).mono ?_
    rintro r w5 ⟨rfl, q5, hw5⟩
    have hB5 := two_boxes hw5
    have hI5 : It w5 w'.heap.size _ es := hI4.below hB5 (Nat.le_refl _)
    have hR5 : w5.rangeAt w2.heap.size 0 (hc k) := range_below HR.out hB5 (by omega)
    have hz5 : W4.heap.size ≤ w5.heap.size := hB5.size
    have HB05 : Hid (Below w'.heap.size w' w5) := HB04.out.trans (hB5.mono (by omega))
    have HI5 := hide hI5
    have HR5 := hide hR5
    clear hw5 hB5 hI5 hR5 hI4 HR HB04 q5
    go_wp2_with (first | (refine wpList_load30 rfl _ rfl w2.heap.size 0 rfl k HR5.out ?_) | (go_at_call 8; refine (counts_miss2 w'.heap.size g len vcap vo es k _ hk0 hk1 HVO HI5.out (by omega) HL.out HW.out HM.out).mono ?_; rintro r w6 ⟨g6, cap6, rfl, hI6, hB6, hS6⟩; have HI6 := hide hI6; have HB6 := hide hB6; have HS6 := hide hS6; clear hI6 hB6 hS6))
    obtain ⟨hs1, hs2, hs3⟩ := HS6.out
    have HR6 : Hid (w6.rangeAt w2.heap.size 0 (hc k)) := fun j u hj => (World.cell?_of_block (hs3 w2.heap.size (by omega) (by omega) (fun h => by have := HG2.out _ h.symm; omega))).trans (HR5.out j u hj)
    have hgbx : g6 ≠ w2.heap.size := by
      rcases hs2 with h | h
      · have := HG2.out _ h.symm; omega
      · omega
    have HB06 : Hid (Below w'.heap.size w' w6) := HB05.out.trans HB6.out
    have hz6 : w2.heap.size < w6.heap.size := by omega
    have HE6 : Hid ((es ++ [(k, 0, 0)])[len]? = some (k, 0, 0)) := by have := HL.out; rw [Hid, List.getElem?_append_right (by omega)]; simp [this]
    have HL6 : Hid ((es ++ [(k, 0, 0)]).length = len + 1) := by have := HL.out; rw [Hid, List.length_append, this]; rfl
    have HK6 : Hid (((k, 0, 0) : Int × Int × Int).1 = k) := rfl
    have HM6 : Hid (∀ (j : Nat) (z : Int × Int × Int), j < len → (es ++ [(k, 0, 0)])[j]? = some z → z.1 ≠ k) := fun j z hj h => by
      rw [List.getElem?_append_left (by have := HL.out; omega)] at h
      exact HM.out j z hj h
    have HW6 : Hid (∀ z ∈ es ++ [(k, 0, 0)], 0 ≤ z.1 ∧ z.1 ≤ 255) := fun z hz => by
      rcases List.mem_append.1 hz with h | h
      · exact HW.out z h
      · rw [List.mem_singleton.1 h]; exact ⟨hk0, hk1⟩
    clear HI5 HR5 HB05 HS6 HB6 hs1 hs2 hs3 HM HW HL HVO
    have l1 : w6.rangeAt g6 (len * 34) (hc k) := by
      have h1 := HI6.out.own
      rw [HL6.out] at h1
      have := own_hash h1 len _ HE6.out
      rw [HK6.out] at this
      exact this
    refine wp_region_quiet_lit (by kernel_rfl) (by kernel_rfl) ?_
    repeat (go_big_quiet_step (fail))
    refine quietw_load30 (by rfl) _ rfl g6 (len * 34) rfl k (fun w' ⟨n, hn⟩ => by rw [hn]; exact l1) ?_
    refine quietw_load30 (by rfl) _ rfl w2.heap.size 0 rfl k (fun w' ⟨n, hn⟩ => by rw [hn]; exact HR6.out) ?_
    refine quietw_neq30 (by rfl) _ _ _ rfl k rfl rfl hk0 hk1 ?_
    simp only [Act.put, List.setIfInBounds_toArray, List.set_cons_zero, List.set_cons_succ]
    repeat (go_big_quiet_step (fail))
    refine wpQuiet_nil ?_
    rintro _ ⟨nq, rfl⟩
    try simp only [Act.put, List.setIfInBounds_toArray, List.set_cons_zero, List.set_cons_succ]
    have c6 := HI6.out.cell
    have cc : w6.cell? ⟨g6, len * 34 + 32, none⟩ = some (.int .i64 0) := own_count HI6.out HL6.out len _ HE6.out
    have cf : w6.frozen? ⟨g6, len * 34 + 32, none⟩ = false := by
      have h1 := HI6.out.own
      rw [HL6.out] at h1
      exact own_free h1 _
    have hbg : w'.heap.size ≠ g6 := by have := (HI6.out.own.lt g6 rfl).1; omega
    have HI7 : Hid (It ((w6.drewN nq).setCell ⟨g6, len * 34 + 32, none⟩ (.int .i64 1)) w'.heap.size (.slice (some ⟨g6, 0, none⟩) (len + 1) cap6) ((es ++ [(k, 0, 0)]).set len (k, 1, 0))) := by
      have := (HI6.out.drewN nq).bump len (k, 0, 0) HE6.out 1
      rw [HK6.out] at this
      exact this
    have HR7 : Hid (((w6.drewN nq).setCell ⟨g6, len * 34 + 32, none⟩ (.int .i64 1)).rangeAt w2.heap.size 0 (hc k)) := range_setCell (show (w6.drewN nq).rangeAt w2.heap.size 0 (hc k) from HR6.out) hgbx
    have HL7 : Hid (((es ++ [(k, 0, 0)]).set len (k, 1, 0)).length = (len + 1)) := by rw [Hid, List.length_set]; exact HL6.out
    have HE7 : Hid (((es ++ [(k, 0, 0)]).set len (k, 1, 0))[len]? = some (k, 1, 0)) := List.getElem?_set_self (by have := HL6.out; omega)
    have HM7 : Hid (∀ (j : Nat) (z : Int × Int × Int), j < len → ((es ++ [(k, 0, 0)]).set len (k, 1, 0))[j]? = some z → z.1 ≠ k) := fun j z hj hje => by
      rw [List.getElem?_set_ne (by omega)] at hje
      exact HM6.out j z hj hje
    have HW7 : Hid (∀ z ∈ (es ++ [(k, 0, 0)]).set len (k, 1, 0), 0 ≤ z.1 ∧ z.1 ≤ 255) := fun z he => by
      rcases List.mem_or_eq_of_mem_set he with h | h
      · exact HW6.out z h
      · rw [h]; exact ⟨hk0, hk1⟩
    have HB07 : Hid (Below w'.heap.size w' ((w6.drewN nq).setCell ⟨g6, len * 34 + 32, none⟩ (.int .i64 1))) := Below.setCell (p := ⟨g6, len * 34 + 32, none⟩) (below_draws HB06.out nq) (by have := (HI6.out.own.lt g6 rfl).1; show w'.heap.size ≤ g6; omega) _
    have hil6 : len < (len + 1) := by omega
    have hbx7 : w2.heap.size < ((w6.drewN nq).setCell ⟨g6, len * 34 + 32, none⟩ (.int .i64 1)).heap.size := by
      have : ((w6.drewN nq).setCell ⟨g6, len * 34 + 32, none⟩ (.int .i64 1)).heap.size = w6.heap.size := World.size_setCell _ _ _
      omega
    have HBX7 := hide hbx7
    clear hbx7
    go_wp2_with (first | (refine wpList_load30 rfl _ rfl w2.heap.size 0 rfl k HR7.out ?_))
    refine (counts_hit w'.heap.size g6 (len + 1) cap6 _ k len _ hk0 hk1 HI7.out (by omega) HL7.out HW7.out hil6 (fun e' he' => by rw [HE7.out] at he'; cases he'; rfl) HM7.out).mono ?_
    rintro r w8 ⟨rfl, q8, hw8⟩
    have hB8 := two_boxes hw8
    have hI8 := HI7.out.below hB8 (Nat.le_refl _)
    have hR8 := range_below HR7.out hB8 HBX7.out
    have d8 := hI8.cell
    have HB8 := hide hB8
    have HI8 := hide hI8
    have HR8 := hide hR8
    clear hw8 hB8 hI8 hR8
    go_wp2_with (first | (refine wpList_load30 rfl _ rfl w2.heap.size 0 rfl k HR8.out ?_))
    refine (fc_hit w'.heap.size g6 (len + 1) cap6 _ k len _ _ hk0 hk1 HI8.out (by omega) HL7.out HW7.out hil6 HE7.out rfl HM7.out).mono ?_
    rintro r w9 ⟨rfl, q9, hw9⟩
    have HB9 : Hid (Below w8.heap.size w8 w9) := two_boxes hw9
    clear hw9
    go_wp2
    go_ret
    refine ⟨by simp, HB07.out.trans ((HB8.out.mono ?_).trans (HB9.out.mono ?_))⟩
    · exact HB07.out.size
    · exact Nat.le_trans HB07.out.size HB8.out.size
end Go.Proofs.Ybulkcwfo
