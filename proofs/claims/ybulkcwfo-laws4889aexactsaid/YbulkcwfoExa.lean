/-
  LawS4889AExact: the walk.
-/
import Derived.Test.YbulkcwfoEqr
import Derived.Test.YbulkcwfoCnt
import Derived.Deep.RegionHeld3
namespace Go.Proofs.Ybulkcwfo
open Go.RowKit
attribute [local go_sem ↓] op_build1 op_build3 op_load45 op_neq45
attribute [local go_sem] isH isR isI mkR_mk aggOf_agg hasRow_drew hasRow_drewN rowAt_drew rowAt_drewN hasRow_alloc rowAt_alloc

theorem held_later {x y : World} {bit g j q : Nat} {v u0 u1 u2 : Value} {e : Int × Int × Int}
    (h : x.cell? ⟨bit, 6, none⟩ = some v ∧ HasRow x (.pointer (some ⟨g, j, none⟩)) 34 ∧ rowAt x (.pointer (some ⟨g, j, none⟩)) 34 = rc e ∧ x.cell? ⟨q, 0, none⟩ = some u0 ∧ x.cell? ⟨q, 1, none⟩ = some u1 ∧ x.cell? ⟨q, 2, none⟩ = some u2)
    (hb : Below x.heap.size x y) (h1 : bit < x.heap.size) (h2 : g < x.heap.size) (h3 : q < x.heap.size) :
    y.cell? ⟨bit, 6, none⟩ = some v ∧ HasRow y (.pointer (some ⟨g, j, none⟩)) 34 ∧ rowAt y (.pointer (some ⟨g, j, none⟩)) 34 = rc e ∧ y.cell? ⟨q, 0, none⟩ = some u0 ∧ y.cell? ⟨q, 1, none⟩ = some u1 ∧ y.cell? ⟨q, 2, none⟩ = some u2 := by
  obtain ⟨a1, ⟨b', o', hp, hj⟩, a3, a4, a5, a6⟩ := h
  injection hp with hp
  injection hp with hp
  injection hp with hp1 hp2
  subst hp1; subst hp2
  have hr : x.rangeAt g j (rc e) := by
    have := rowAt_range hj
    rw [a3] at this
    exact this
  have hr' : y.rangeAt g j (rc e) := range_below hr hb h2
  refine ⟨(hb.cell (p := ⟨bit, 6, none⟩) h1).trans a1, ?_, ?_, (hb.cell (p := ⟨q, 0, none⟩) h3).trans a4, (hb.cell (p := ⟨q, 1, none⟩) h3).trans a5, (hb.cell (p := ⟨q, 2, none⟩) h3).trans a6⟩
  · have := hasRow_of hr'; rwa [rc_length] at this
  · have := rowAt_eq hr'; rwa [rc_length] at this

set_option maxRecDepth 100000 in
set_option maxHeartbeats 4000000 in
theorem exact_all (ao : Option Addr) (b o len cap : Nat) (es : List (Int × Int × Int)) (pick miss : Int) (w : World) (hC : Came4889 w ao b o len es) (hwf2 : ∀ e ∈ es, (Lit.int .i64 e.2.1).wf = true ∧ (Lit.int .i64 e.2.2).wf = true)
    (hp0 : 0 ≤ pick) (hp1 : pick ≤ 18446744073709551615) (hm0 : 0 ≤ miss) (hm1 : miss ≤ 255) :
    Calls Yba.prog 3 #[.slice ao len cap, .int .u64 pick, .int .u8 miss] w fun e w' => e = .returned (.bool true) ∧ Below w.heap.size w w' := by
  have hle := hC.le
  have HC := hide hC
  have HF := hide hwf2
  clear hC hwf2
  have hpn := ptr_neq
  go_enter Yba.func3, Yba.ntmps3
  go_wp2_with (first
    | (go_at_call 5; refine (key_any ao b o len cap es pick miss _ HC.out.length hle HC.out.addr HC.out.lies HC.out.wf hp0 hp1 hm0 hm1).mono ?_; rintro r w' ⟨k, rfl, hk0, hk1, rfl⟩)
    | (go_at_call 6; refine (build_any ao b o len cap es _ HC.out.length hle HC.out.addr HC.out.lt HC.out.lies).mono ?_; rintro r w1 ⟨v, rfl, hI, hB⟩; have HI := hide hI; have HB := hide hB; clear hI hB))
  go_loopw [28, 9] (fun ix want wr => ∃ j : Nat, j ≤ len ∧ ix = .int .i64 j ∧ want = .int .i64 (-1) ∧ Hid (∀ (t : Nat) (e : Int × Int × Int), t < j → es[t]? = some e → e.1 ≠ k) ∧ Hid (Below w1.heap.size w1 wr)) (fun ix _ _ => len - (intOf ix).toNat)
  case atStart => exact ⟨0, Nat.zero_le _, rfl, rfl, fun t e h => absurd h (Nat.not_lt_zero _), Below.refl _ _⟩
  case round =>
    obtain ⟨j, hj, rfl, rfl, HM, HBr⟩ := hrel
    have hz01 : w'.heap.size < w1.heap.size := World.block_lt_of_cell? w1 _ HI.out.cell
    have HB0r : Hid (Below w'.heap.size w' wr) := HB.out.trans (HBr.out.mono (by omega))
    by_cases hjl : j < len
    · obtain rfl := HC.out.addr (by omega)
      have hb' := HC.out.lt (by omega)
      obtain ⟨⟨ek, ec, en⟩, hej⟩ : ∃ e, es[j]? = some e := ⟨_, List.getElem?_eq_getElem (by have := HC.out.length; omega)⟩
      have HEJ := hide hej
      obtain ⟨d0, d1, d2⟩ := HC.out.lies j _ hej
      have e0 : wr.cell? ⟨b, o + j * 3, none⟩ = some (.int .u8 ek) := (HB0r.out.cell (p := ⟨b, o + j * 3, none⟩) hb').trans d0
      have e1 : wr.cell? ⟨b, o + j * 3 + 1, none⟩ = some (.int .i64 ec) := (HB0r.out.cell (p := ⟨b, o + j * 3 + 1, none⟩) hb').trans d1
      have e2 : wr.cell? ⟨b, o + j * 3 + 2, none⟩ = some (.int .i64 en) := (HB0r.out.cell (p := ⟨b, o + j * 3 + 2, none⟩) hb').trans d2
      clear d0 d1 d2 hej
      by_cases hkk : ek = k
      · subst hkk
        go_wp2_with (first
          | (go_at_call 7; refine (hash_any ek _).mono ?_; rintro r w2 ⟨rfl, hB2⟩; have HB2 := hide hB2; clear hB2)
          | (refine wpList_alloc30 rfl rfl ?_; intro W3 hBa hsa hth; have HBA := hide hBa; have HSA := hide hsa; have HTH := hide hth; clear hBa hsa hth)
          | (refine wpList_store30 rfl _ _ rfl w2.heap.size ek rfl rfl HTH.out ?_; intro W4 hBs hss hR; have HBS := hide hBs; have HSS := hide hss; have HR := hide hR; clear hBs hss hR)
          | (refine wpList_load30 rfl _ rfl w2.heap.size 0 rfl ek HR.out ?_))
        have hB12 : Below w1.heap.size w1 w2 := (HBr.out.alloc HBr.out.size _).trans (HB2.out.mono (by have := HBr.out.size; simp; omega))
        have hI2 : It w2 w'.heap.size v es := HI.out.below hB12 (Nat.le_refl _)
        have hB4 : Below w2.heap.size w2 W4 := HBA.out.trans HBS.out
        have hI4 : It W4 w'.heap.size v es := hI2.below hB4 (Nat.le_refl _)
        have hz4 : W4.heap.size = w2.heap.size + 1 := HSS.out.trans HSA.out
        have hz12 : w1.heap.size ≤ w2.heap.size := hB12.size
        have HB04 : Hid (Below w'.heap.size w' W4) := HB.out.trans ((hB12.mono (by omega)).trans (hB4.mono (by omega)))
        obtain ⟨vo, g, vcap, hv, hvo, _⟩ := own_shape hI4.own
        rw [HC.out.length] at hv hvo
        have HG2 : Hid (∀ r, v.ownBlock = some r → r < w2.heap.size) := fun r hr => (hI2.own.lt r hr).2
        have HI4 := hide hI4
        clear HI HB HB2 HBA HSA HTH HBS HSS hI2 hB4 hB12 hI4 HBr HB0r
        obtain rfl := hvo (by omega)
        subst hv
        clear hvo
        refine (counts_hit w'.heap.size g len vcap es ek j _ hk0 hk1 HI4.out (by omega) HC.out.length HC.out.wf hjl (fun e' he' => by rw [HEJ.out] at he'; cases he'; rfl) HM.out).mono ?_
        rintro r w6 ⟨rfl, q6, hw6⟩
        have hB6 := two_boxes hw6
        have HI6 : Hid (It w6 w'.heap.size (.slice (some ⟨g, 0, none⟩) len vcap) es) := HI4.out.below hB6 (Nat.le_refl _)
        have HB06 : Hid (Below w'.heap.size w' w6) := HB04.out.trans (hB6.mono (by omega))
        have HE6 : Hid (∀ t e, t < len → es[t]? = some e → es[t]? = some e) := fun t e _ h => h
        have HL6 : Hid (es.length = len) := HC.out.length
        clear hw6 hB6 HI4 HB04 q6 HR HG2 HEJ HM e0 e1 e2
        have c6 := HI6.out.cell
        go_wp2
        clear c6
        go_loopw [97] (fun ix wr => ∃ t : Nat, t ≤ len ∧ ix = .int .i64 t ∧ Hid (It wr w'.heap.size (.slice (some ⟨g, 0, none⟩) len vcap) es) ∧ Hid (Below w'.heap.size w' wr)) (fun ix _ => len - (intOf ix).toNat)
        case atStart => exact ⟨0, Nat.zero_le _, rfl, HI6.out, HB06.out⟩
        case round =>
          obtain ⟨t, ht, rfl, HIr, HBr⟩ := hrel
          by_cases htl : t < len
          · have hb' := HC.out.lt (by omega)
            obtain ⟨⟨fk, fc, fn⟩, hft⟩ : ∃ e, es[t]? = some e := ⟨_, List.getElem?_eq_getElem (by have := HC.out.length; omega)⟩
            obtain ⟨d0, d1, d2⟩ := HC.out.lies t _ hft
            have e0 : wr.cell? ⟨b, o + t * 3, none⟩ = some (.int .u8 fk) := (HBr.out.cell (p := ⟨b, o + t * 3, none⟩) hb').trans d0
            have e1 : wr.cell? ⟨b, o + t * 3 + 1, none⟩ = some (.int .i64 fc) := (HBr.out.cell (p := ⟨b, o + t * 3 + 1, none⟩) hb').trans d1
            have e2 : wr.cell? ⟨b, o + t * 3 + 2, none⟩ = some (.int .i64 fn) := (HBr.out.cell (p := ⟨b, o + t * 3 + 2, none⟩) hb').trans d2
            have hwf1 := HC.out.wf _ (List.mem_of_getElem? hft)
            have hwf2 := HF.out _ (List.mem_of_getElem? hft)
            have hsame := sameR (fk, fc, fn) hwf1.1 hwf1.2 hwf2.1 hwf2.2
            have hrec : wr.rangeAt g (t * 34) (rc (fk, fc, fn)) := by
              have h1 := HIr.out.own
              rw [HL6.out] at h1
              exact own_rec h1 t _ (HE6.out t _ htl hft)
            have hrow : HasRow wr (.pointer (some ⟨g, t * 34, none⟩)) 34 := by have := hasRow_of hrec; rwa [rc_length] at this
            have hrowv : rowAt wr (.pointer (some ⟨g, t * 34, none⟩)) 34 = rc (fk, fc, fn) := by have := rowAt_eq hrec; rwa [rc_length] at this
            have c6 := HIr.out.cell
            have hbr : w'.heap.size < wr.heap.size := World.block_lt_of_cell? wr _ c6
            have hgr : g < wr.heap.size := (HIr.out.own.lt _ rfl).2
            clear hft d0 d1 d2 hwf1 hwf2 hrec
            go_wp2
            have HS0 : Hid ((wr.alloc (.cells #[.int .u8 fk, .int .i64 fc, .int .i64 fn] 28)).drew.cell? ⟨w'.heap.size, 6, none⟩ = some (.slice (some ⟨g, 0, none⟩) len vcap) ∧ HasRow (wr.alloc (.cells #[.int .u8 fk, .int .i64 fc, .int .i64 fn] 28)).drew (.pointer (some ⟨g, t * 34, none⟩)) 34 ∧ rowAt (wr.alloc (.cells #[.int .u8 fk, .int .i64 fc, .int .i64 fn] 28)).drew (.pointer (some ⟨g, t * 34, none⟩)) 34 = rc (fk, fc, fn) ∧
                (wr.alloc (.cells #[.int .u8 fk, .int .i64 fc, .int .i64 fn] 28)).drew.cell? ⟨wr.heap.size, 0, none⟩ = some (.int .u8 fk) ∧ (wr.alloc (.cells #[.int .u8 fk, .int .i64 fc, .int .i64 fn] 28)).drew.cell? ⟨wr.heap.size, 1, none⟩ = some (.int .i64 fc) ∧ (wr.alloc (.cells #[.int .u8 fk, .int .i64 fc, .int .i64 fn] 28)).drew.cell? ⟨wr.heap.size, 2, none⟩ = some (.int .i64 fn)) :=
              ⟨(show (wr.alloc (.cells #[.int .u8 fk, .int .i64 fc, .int .i64 fn] 28)).cell? ⟨w'.heap.size, 6, none⟩ = _ from World.cell?_alloc_past _ _ _ hbr).trans c6, hasRow_alloc _ hrow, (rowAt_alloc _ hrow).trans hrowv, World.cell?_alloc_at _ _ _ _ rfl, World.cell?_alloc_at _ _ _ _ rfl, World.cell?_alloc_at _ _ _ _ rfl⟩
            have hzz : (wr.alloc (.cells #[.int .u8 fk, .int .i64 fc, .int .i64 fn] 28)).drew.heap.size = wr.heap.size + 1 := World.size_alloc wr _
            have HZZ := hide hzz
            clear hrow hrowv c6 e0 e1 e2 hzz
            go_region_held3 (fun x => x.cell? ⟨w'.heap.size, 6, none⟩ = some (.slice (some ⟨g, 0, none⟩) len vcap) ∧ HasRow x (.pointer (some ⟨g, t * 34, none⟩)) 34 ∧ rowAt x (.pointer (some ⟨g, t * 34, none⟩)) 34 = rc (fk, fc, fn) ∧ x.cell? ⟨wr.heap.size, 0, none⟩ = some (.int .u8 fk) ∧ x.cell? ⟨wr.heap.size, 1, none⟩ = some (.int .i64 fc) ∧ x.cell? ⟨wr.heap.size, 2, none⟩ = some (.int .i64 fn)) (first | exact HS0.out | exact HS1.out)
              (first | (go_at_call 7; refine (hash_any fk _).mono ?_; rintro r w9 ⟨rfl, hb9⟩; have HB9 := hide hb9; have HS1 := hide (held_later HS0.out hb9 (by rw [HZZ.out]; omega) (by rw [HZZ.out]; omega) (by rw [HZZ.out]; omega)); clear hb9))
            go_wp2
            go_roundw
            case rel =>
              refine ⟨t + 1, by omega, by go_num, ?_, ?_⟩
              · have h := HIr.out.alloc (.cells #[.int .u8 fk, .int .i64 fc, .int .i64 fn] 28)
                exact (show It (wr.alloc (.cells #[.int .u8 fk, .int .i64 fc, .int .i64 fn] 28)).drew _ _ _ from ⟨h.cell, h.free, h.own⟩).below HB9.out (Nat.le_refl _)
              · exact (HBr.out.alloc HBr.out.size _).drew.trans (HB9.out.mono (by rw [HZZ.out]; omega))
            case measure => simp [intOf]; omega
          · go_wp2
            go_ret
            exact ⟨by simp, HBr.out⟩
      · go_wp2
        go_roundw
        case rel =>
          refine ⟨j + 1, by omega, by go_num, rfl, fun t e ht hte => ?_, HBr.out.alloc HBr.out.size _⟩
          by_cases htj : t < j
          · exact HM.out t e htj hte
          · obtain rfl : t = j := by omega
            rw [HEJ.out] at hte
            cases hte
            exact hkk
        case measure => simp [intOf]; omega
    · go_wp2_with (first
          | (go_at_call 7; refine (hash_any k _).mono ?_; rintro r w2 ⟨rfl, hB2⟩; have HB2 := hide hB2; clear hB2)
          | (refine wpList_alloc30 rfl rfl ?_; intro W3 hBa hsa hth; have HBA := hide hBa; have HSA := hide hsa; have HTH := hide hth; clear hBa hsa hth)
          | (refine wpList_store30 rfl _ _ rfl w2.heap.size k rfl rfl HTH.out ?_; intro W4 hBs hss hR; have HBS := hide hBs; have HSS := hide hss; have HR := hide hR; clear hBs hss hR)
          | (refine wpList_load30 rfl _ rfl w2.heap.size 0 rfl k HR.out ?_))
      have hB12 : Below w1.heap.size w1 w2 := HBr.out.trans (HB2.out.mono HBr.out.size)
      have hI2 : It w2 w'.heap.size v es := HI.out.below hB12 (Nat.le_refl _)
      have hB4 : Below w2.heap.size w2 W4 := HBA.out.trans HBS.out
      have hI4 : It W4 w'.heap.size v es := hI2.below hB4 (Nat.le_refl _)
      have hz4 : W4.heap.size = w2.heap.size + 1 := HSS.out.trans HSA.out
      have hz12 : w1.heap.size ≤ w2.heap.size := hB12.size
      have HB04 : Hid (Below w'.heap.size w' W4) := HB.out.trans ((hB12.mono (by omega)).trans (hB4.mono (by omega)))
      obtain ⟨vo, g, vcap, hv, hvo, _⟩ := own_shape hI4.own
      rw [HC.out.length] at hv hvo
      have HG2 : Hid (∀ r, v.ownBlock = some r → r < w2.heap.size) := fun r hr => (hI2.own.lt r hr).2
      have HI4 := hide hI4
      clear HI HB HB2 HBA HSA HTH HBS HSS hI2 hB4 hB12 hI4 HBr HB0r
      subst hv
      obtain rfl : len = j := by omega
      have HM' : Hid (∀ (t : Nat) (e : Int × Int × Int), t < len → es[t]? = some e → e.1 ≠ k) := HM
      have HVO : Hid (0 < len → vo = some ⟨g, 0, none⟩) := hvo
      clear hvo HM
      refine (counts_miss2 w'.heap.size g len vcap vo es k _ hk0 hk1 HVO HI4.out (by omega) HC.out.length HC.out.wf HM'.out).mono ?_
      rintro r w6 ⟨g6, cap6, rfl, hI6, hB6, hS6⟩
      obtain ⟨hs1, hs2, hs3⟩ := hS6
      have HI6 := hide hI6
      have HR6 : Hid (w6.rangeAt w2.heap.size 0 (hc k)) := fun j u hj => (World.cell?_of_block (hs3 w2.heap.size (by omega) (by omega) (fun h => by have := HG2.out _ h.symm; omega))).trans (HR.out j u hj)
      have HB06 : Hid (Below w'.heap.size w' w6) := HB04.out.trans hB6
      have HE6 : Hid (∀ t e, t < len → es[t]? = some e → (es ++ [(k, 0, 0)])[t]? = some e) := fun t e ht h => by
        rw [List.getElem?_append_left (by have := HC.out.length; omega)]; exact h
      have HL6 : Hid ((es ++ [(k, 0, 0)]).length = len + 1) := by rw [Hid, List.length_append, HC.out.length]; rfl
      have HN6 : Hid ((es ++ [(k, 0, 0)])[len]? = some (k, 0, 0)) := by rw [Hid, List.getElem?_append_right (by have := HC.out.length; omega), HC.out.length]; simp
      have HRN : Hid (w6.rangeAt g6 (len * 34) (rc (k, 0, 0))) := by
        have h1 := HI6.out.own
        rw [HL6.out] at h1
        exact own_rec h1 len _ HN6.out
      clear hI6 hB6 hs1 hs2 hs3 HI4 HB04 HR HG2 HM' HVO
      have c6 := HI6.out.cell
      go_wp2
      refine wp_region_quiet_lit (by kernel_rfl) (by kernel_rfl) ?_
      repeat (go_big_quiet_step (fail))
      refine quiet_load45 rfl _ rfl g6 (len * 34) rfl (k, 0, 0) (fun w' ⟨n, hn⟩ => by rw [hn]; exact HRN.out) ?_
      refine quiet_load30 rfl _ rfl w2.heap.size 0 rfl k (fun w' ⟨n, hn⟩ => by rw [hn]; exact HR6.out) ?_
      refine quiet_build1 rfl _ rfl k rfl ?_
      refine quiet_neq45 rfl _ _ _ rfl (k, 0, 0) rfl rfl hk0 hk1 rfl rfl ?_
      refine wpQuiet_nil ?_
      rintro _ ⟨nq, rfl⟩
      try simp only [Act.put, List.setIfInBounds_toArray, List.set_cons_zero, List.set_cons_succ]
      go_wp2
      clear c6
      go_loopw [97] (fun ix wr => ∃ t : Nat, t ≤ len ∧ ix = .int .i64 t ∧ Hid (It wr w'.heap.size (.slice (some ⟨g6, 0, none⟩) (len + 1) cap6) (es ++ [(k, 0, 0)])) ∧ Hid (Below w'.heap.size w' wr)) (fun ix _ => len - (intOf ix).toNat)
      case atStart => exact ⟨0, Nat.zero_le _, rfl, HI6.out.drewN nq, below_draws HB06.out nq⟩
      case round =>
        obtain ⟨t, ht, rfl, HIr, HBr⟩ := hrel
        by_cases htl : t < len
        · obtain rfl := HC.out.addr (by omega)
          have hb' := HC.out.lt (by omega)
          have htn : t < len + 1 := by omega
          have htn2 : (t : Int) < (len : Int) + 1 := by omega
          obtain ⟨⟨fk, fc, fn⟩, hft⟩ : ∃ e, es[t]? = some e := ⟨_, List.getElem?_eq_getElem (by have := HC.out.length; omega)⟩
          obtain ⟨d0, d1, d2⟩ := HC.out.lies t _ hft
          have e0 : wr.cell? ⟨b, o + t * 3, none⟩ = some (.int .u8 fk) := (HBr.out.cell (p := ⟨b, o + t * 3, none⟩) hb').trans d0
          have e1 : wr.cell? ⟨b, o + t * 3 + 1, none⟩ = some (.int .i64 fc) := (HBr.out.cell (p := ⟨b, o + t * 3 + 1, none⟩) hb').trans d1
          have e2 : wr.cell? ⟨b, o + t * 3 + 2, none⟩ = some (.int .i64 fn) := (HBr.out.cell (p := ⟨b, o + t * 3 + 2, none⟩) hb').trans d2
          have hwf1 := HC.out.wf _ (List.mem_of_getElem? hft)
          have hwf2 := HF.out _ (List.mem_of_getElem? hft)
          have hsame := sameR (fk, fc, fn) hwf1.1 hwf1.2 hwf2.1 hwf2.2
          have hrec : wr.rangeAt g6 (t * 34) (rc (fk, fc, fn)) := by
            have h1 := HIr.out.own
            rw [HL6.out] at h1
            exact own_rec h1 t _ (HE6.out t _ htl hft)
          have hrow : HasRow wr (.pointer (some ⟨g6, t * 34, none⟩)) 34 := by have := hasRow_of hrec; rwa [rc_length] at this
          have hrowv : rowAt wr (.pointer (some ⟨g6, t * 34, none⟩)) 34 = rc (fk, fc, fn) := by have := rowAt_eq hrec; rwa [rc_length] at this
          have c6 := HIr.out.cell
          have hbr : w'.heap.size < wr.heap.size := World.block_lt_of_cell? wr _ c6
          have hgr : g6 < wr.heap.size := (HIr.out.own.lt _ rfl).2
          clear hft d0 d1 d2 hwf1 hwf2 hrec
          go_wp2
          have HS0 : Hid ((wr.alloc (.cells #[.int .u8 fk, .int .i64 fc, .int .i64 fn] 28)).drew.cell? ⟨w'.heap.size, 6, none⟩ = some (.slice (some ⟨g6, 0, none⟩) (len + 1) cap6) ∧ HasRow (wr.alloc (.cells #[.int .u8 fk, .int .i64 fc, .int .i64 fn] 28)).drew (.pointer (some ⟨g6, t * 34, none⟩)) 34 ∧ rowAt (wr.alloc (.cells #[.int .u8 fk, .int .i64 fc, .int .i64 fn] 28)).drew (.pointer (some ⟨g6, t * 34, none⟩)) 34 = rc (fk, fc, fn) ∧
              (wr.alloc (.cells #[.int .u8 fk, .int .i64 fc, .int .i64 fn] 28)).drew.cell? ⟨wr.heap.size, 0, none⟩ = some (.int .u8 fk) ∧ (wr.alloc (.cells #[.int .u8 fk, .int .i64 fc, .int .i64 fn] 28)).drew.cell? ⟨wr.heap.size, 1, none⟩ = some (.int .i64 fc) ∧ (wr.alloc (.cells #[.int .u8 fk, .int .i64 fc, .int .i64 fn] 28)).drew.cell? ⟨wr.heap.size, 2, none⟩ = some (.int .i64 fn)) :=
            ⟨(show (wr.alloc (.cells #[.int .u8 fk, .int .i64 fc, .int .i64 fn] 28)).cell? ⟨w'.heap.size, 6, none⟩ = _ from World.cell?_alloc_past _ _ _ hbr).trans c6, hasRow_alloc _ hrow, (rowAt_alloc _ hrow).trans hrowv, World.cell?_alloc_at _ _ _ _ rfl, World.cell?_alloc_at _ _ _ _ rfl, World.cell?_alloc_at _ _ _ _ rfl⟩
          have hzz : (wr.alloc (.cells #[.int .u8 fk, .int .i64 fc, .int .i64 fn] 28)).drew.heap.size = wr.heap.size + 1 := World.size_alloc wr _
          have HZZ := hide hzz
          clear hrow hrowv c6 e0 e1 e2 hzz
          go_region_held3 (fun x => x.cell? ⟨w'.heap.size, 6, none⟩ = some (.slice (some ⟨g6, 0, none⟩) (len + 1) cap6) ∧ HasRow x (.pointer (some ⟨g6, t * 34, none⟩)) 34 ∧ rowAt x (.pointer (some ⟨g6, t * 34, none⟩)) 34 = rc (fk, fc, fn) ∧ x.cell? ⟨wr.heap.size, 0, none⟩ = some (.int .u8 fk) ∧ x.cell? ⟨wr.heap.size, 1, none⟩ = some (.int .i64 fc) ∧ x.cell? ⟨wr.heap.size, 2, none⟩ = some (.int .i64 fn)) (first | exact HS0.out | exact HS1.out)
            (first | (go_at_call 7; refine (hash_any fk _).mono ?_; rintro r w9 ⟨rfl, hb9⟩; have HB9 := hide hb9; have HS1 := hide (held_later HS0.out hb9 (by rw [HZZ.out]; omega) (by rw [HZZ.out]; omega) (by rw [HZZ.out]; omega)); clear hb9))
          go_wp2
          go_roundw
          case rel =>
            refine ⟨t + 1, by omega, by go_num, ?_, ?_⟩
            · have h := HIr.out.alloc (.cells #[.int .u8 fk, .int .i64 fc, .int .i64 fn] 28)
              exact (show It (wr.alloc (.cells #[.int .u8 fk, .int .i64 fc, .int .i64 fn] 28)).drew _ _ _ from ⟨h.cell, h.free, h.own⟩).below HB9.out (Nat.le_refl _)
            · exact (HBr.out.alloc HBr.out.size _).drew.trans (HB9.out.mono (by rw [HZZ.out]; omega))
          case measure => simp [intOf]; omega
        · go_wp2
          go_ret
          exact ⟨by simp, HBr.out⟩
end Go.Proofs.Ybulkcwfo
