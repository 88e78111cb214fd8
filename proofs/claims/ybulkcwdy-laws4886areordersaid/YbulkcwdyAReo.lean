/-
  LawS4886AReorder: the walk.
-/
import Derived.Test.YbulkcwdyReoP
namespace Go.Proofs.Ybulkcwdy
open Go.RowKit Go.ChangeMaps

def ulen (plf : Nat → List Int) (j : Nat) : Nat := (plf j).length

set_option maxRecDepth 100000 in
set_option maxHeartbeats 8000000 in
theorem areo_any (ma : Option Addr) (b0 o0 n mc : Nat) (xs : List Int) (sa : Option Addr) (sb so N sc : Nat) (sel : Nat → List Int) (sA : Nat → Option Addr) (sC : Nat → Nat) (w : World) (hI : Hid (Ints w ma b0 o0 n xs)) (hS : Hid (Sets w sa sb so N sel sA sC)) (hn : n ≤ 1024) (hN : N ≤ 256) :
    Calls Yba.prog 4 #[.slice ma n mc, .slice sa N sc] w fun e w' => e = .returned (.bool true) ∧ Below w.heap.size w w' := by
  go_enter Yba.func4, Yba.ntmps4
  go_wp2
  go_loopw [35] (fun ix wr => ∃ i : Nat, i ≤ N ∧ ix = .int .i64 i ∧ Hid (∀ j, j < i → (sel j).length ≤ 1024) ∧ w = wr) (fun ix _ => N - (intOf ix).toNat)
  case atStart => exact ⟨0, Nat.zero_le _, by go_num, fun j hj => by omega, rfl⟩
  case round =>
    obtain ⟨i, hi0, rfl, HL, hw⟩ := hrel
    subst hw
    by_cases hi : i < N
    · obtain rfl := hS.out.top (by omega)
      have c0 := hS.out.cell i hi
      by_cases hl : (sel i).length ≤ 1024
      · have HL1 : Hid ((sel i).length ≤ 1024) := hl
        generalize (sel i).length = ln at c0 hl
        go_wp2
        go_roundw
        case rel => exact ⟨i + 1, by omega, by go_num, fun j hj => by rcases Nat.lt_succ_iff_lt_or_eq.1 hj with h | rfl; exact HL.out j h; exact HL1.out, by trivial⟩
        case measure => simp [intOf]; omega
      · generalize (sel i).length = ln at c0 hl
        go_wp2
        go_ret
        exact ⟨rfl, Below.refl _ _⟩
    · obtain rfl : N = i := by omega
      have hxl : xs.length = n := hI.out.len
      have HXL : Hid (xs.length = n) := hxl
      clear hxl
      go_wp2_with (first
        | (at_make; refine L_make _ rfl _ _ 22 rfl 3 _ _ Yba.underlying22 info3 rfl _ _ _ _ n n rfl rfl rfl rfl (by omega) (by omega) (by omega) ?_; intro w1 mvb hmvb R1 S1)
        | (refine L_copy _ rfl _ _ 22 22 rfl 3 Yba.underlying22 size3 mvb n n mc ma rfl rfl _ (xs.map (Value.int .i64)) 3 R1 (by simp) (len_map HXL) (hI.out.src S1) (ints_one xs) ?_; intro w2 R2 S2
           have T2 : Spare Non w w2 := S1.new S2 (by have := hmvb.out; omega)
           have l2 := R2.lt)
        | (go_at_call 6; refine (build_any sortC compactC n hn sa sb so N sc sel sA sC w2 (hS.out.came T2 HL.out) hN).mono ?_; rintro e w3 ⟨mb, smb, psb, ksb, osb, rfl, ⟨pb, rb, ob, B3⟩, S3⟩
           have HB3 : Hid (Built w3 w2.heap.size N N (pl n sel) mb smb psb ksb osb pb rb ob) := B3
           have HT3 : Hid (Spare Non w w3) := T2.off S3
           have HR3 : Hid (Row w3 mvb 3 (xs.map (Value.int .i64))) := R2.spare S3 id
           clear B3)
        | (at_make; refine L_make2 _ rfl _ _ rfl _ _ _ _ N rfl rfl rfl rfl (by omega) pb (fun _ => 0) (ulen (pl n sel)) ?_; intro w4 cl hcl R4 S4))
      have HCL : Hid (cl = w3.heap.size) := hcl
      have HSZ : Hid (w.heap.size ≤ w2.heap.size ∧ mvb < w2.heap.size) := ⟨T2.size, l2⟩
      clear R1 S1 R2 S2 T2 l2 S3 hmvb hcl
      go_loopw [63] (fun ix wr => ∃ (i : Nat) (cb : Nat → Nat), i ≤ N ∧ ix = .int .i64 i ∧ Hid (Row wr cl 49 (clk pb cb (ulen (pl n sel)) i N)) ∧ Hid (∀ j, j < i → Row wr (cb j) 47 ((pl n sel j).map (Value.int .u64)) ∧ cl < cb j) ∧ Hid (∀ j k, j < k → k < i → cb j < cb k) ∧ Hid (Spare Non w3 wr)) (fun ix _ => N - (intOf ix).toNat)
      case atStart => exact ⟨0, fun _ => 0, Nat.zero_le _, by go_num, R4, fun j hj => by omega, fun j k _ hk => by omega, S4⟩
      case round =>
        revert wr
        intro wo hrel
        obtain ⟨i, cb, hi0, rfl, HC, HRS, HIN, HS⟩ := hrel
        by_cases hi : i < N
        · have B := HB3.out.spare HS.out
          have cps : wo.cell? ⟨psb, i, none⟩ = some (.pointer (some ⟨pb i, 0, none⟩)) := B.ps.cell (by simp [hi])
          have cos : wo.cell? ⟨osb, i, none⟩ = some (.slice (some ⟨ob i, 0, none⟩) (pl n sel i).length (pl n sel i).length) := B.os.cell (by simp [hi])
          have HOL : Hid (Row wo (ob i) 3 ((pl n sel i).map (Value.int .i64))) := B.olds i hi
          have hLl : (pl n sel i).length ≤ 1024 := pl_length (HL.out i hi)
          have hmem : ∀ p ∈ pl n sel i, 0 ≤ p ∧ p < n := fun p hp => pl_mem hp
          generalize hzs : pl n sel i = zs at cos HOL hLl hmem
          have HZS : Hid (pl n sel i = zs) := hzs
          have HMEM : Hid (∀ p ∈ zs, 0 ≤ p ∧ p < n) := hmem
          clear hzs hmem B
          generalize hL : zs.length = L at cos hLl
          have HL0 : Hid (zs.length = L) := hL
          clear hL
          go_wp2_with (first
            | (at_make; refine L_make _ rfl _ _ 37 rfl 47 _ _ Yba.underlying37 info47 rfl _ _ _ _ L L rfl rfl rfl rfl (by omega) (by omega) (by omega) ?_; intro w6 c6 hc6 R6 S6
               have cos6 : w6.cell? ⟨osb, i, none⟩ = some (.slice (some ⟨ob i, 0, none⟩) L L) := spare_cell S6 cos id))
          go_loopw [79] (fun ix wr => ∃ j : Nat, j ≤ L ∧ ix = .int .i64 j ∧ Hid (Row wr c6 47 ((zs.take j).map (Value.int .u64) ++ List.replicate (L - j) (.int .u64 0))) ∧ Hid (Spare Non wo wr)) (fun ix _ => L - (intOf ix).toNat)
          case atStart => exact ⟨0, Nat.zero_le _, by go_num, R6, S6⟩
          case round =>
            obtain ⟨j, hj0, rfl, HR, HS5⟩ := hrel
            by_cases hj : j < L
            · have hzl : zs.length = L := HL0
              obtain ⟨p, hp⟩ : ∃ p, zs[j]? = some p := ⟨zs[j]'(by omega), List.getElem?_eq_getElem (by omega)⟩
              obtain ⟨hp0, hp1⟩ := HMEM.out p (List.mem_of_getElem? hp)
              obtain ⟨pn, rfl⟩ := Int.eq_ofNat_of_zero_le hp0
              have c1 : wr.cell? ⟨ob i, j, none⟩ = some (.int .i64 pn) := spare_cell HS5.out (HOL.out.cell (by rw [List.getElem?_map, hp]; rfl)) id
              have htl : ((zs.take j).map (Value.int .u64)).length = j := by simp; omega
              have c3 : wr.cell? ⟨c6, j, none⟩ = some (.int .u64 0) := HR.out.cell (at_rep _ j L _ htl hj)
              have f3 := HR.out.frozen j
              have hsu : (zs.take (j + 1)).map (Value.int .u64) = (zs.take j).map (Value.int .u64) ++ [.int .u64 (pn : Int)] := by
                rw [List.take_add_one, hp]; simp
              have hpn : pn ≤ 1024 := by omega
              have HSU : Hid ((zs.take (j + 1)).map (Value.int .u64) = (zs.take j).map (Value.int .u64) ++ [.int .u64 (pn : Int)]) := hsu
              have HTL : Hid (((zs.take j).map (Value.int .u64)).length = j) := htl
              clear hp hsu htl hzl hp1
              go_wp2
              go_roundw
              case rel =>
                have h := HR.out.set j (.int .u64 (pn : Int))
                rw [set_rep _ j L _ _ HTL.out hj, ← HSU.out] at h
                exact ⟨j + 1, by omega, by go_num, h, HS5.out.new (Spare.setCell wr ⟨c6, j, none⟩ _) (by have := hc6.out; simp; omega)⟩
              case measure => simp [intOf]; omega
            · obtain rfl : L = j := by omega
              have hzl : zs.length = L := HL0
              have HR6 : Hid (Row wr c6 47 (zs.map (Value.int .u64))) := by
                have h := HR.out
                rw [List.take_of_length_le (by omega), Nat.sub_self, List.replicate_zero, List.append_nil] at h
                exact h
              have HC5 : Hid (Row wr cl 49 (clk pb cb (ulen (pl n sel)) i N)) := HC.out.spare HS5.out id
              have d0 : wr.cell? ⟨cl, i * 2, none⟩ = some (ck pb cb (ulen (pl n sel)) i (i * 2)) := HC5.out.cell (clk_get (by omega))
              have d1 : wr.cell? ⟨cl, i * 2 + 1, none⟩ = some (ck pb cb (ulen (pl n sel)) i (i * 2 + 1)) := HC5.out.cell (clk_get (by omega))
              have e0 := HC5.out.frozen (i * 2)
              have e1 := HC5.out.frozen (i * 2 + 1)
              generalize ck pb cb (ulen (pl n sel)) i (i * 2) = z0 at d0
              generalize ck pb cb (ulen (pl n sel)) i (i * 2 + 1) = z1 at d1
              have i2 : (0 : Int) ≤ (i : Int) := by omega
              have i3 : (i : Int) < (N : Int) := by omega
              clear HR cos6 S6 R6 hzl
              go_wp2
              have hln : ulen (pl n sel) i = L := by
                show (pl n sel i).length = L
                rw [HZS.out]; exact HL0
              have hz : pl n sel i = zs := HZS
              have S2 : Spare (One cl) wr ((wr.setCell ⟨cl, i * 2, none⟩ (.pointer (some ⟨pb i, 0, none⟩))).setCell ⟨cl, i * 2 + 1, none⟩ (.slice (some ⟨c6, 0, none⟩) L L)) := (Spare.setCell wr ⟨cl, i * 2, none⟩ _).on (Spare.setCell _ ⟨cl, i * 2 + 1, none⟩ _) (fun _ => rfl)
              have hcl := HCL.out
              have hc6' := hc6.out
              have lcl := HC.out.lt
              have nc : ∀ k, k ≠ cl → ¬ One cl k := fun k h e => h e
              refine ⟨⟨i + 1, upd cb i c6, by omega, by go_num, ?_, fun j hj => ?_, fun j k hjk hk => ?_, ?_⟩, by simp [intOf]; omega⟩
              · have h := (HC5.out.set (i * 2) (.pointer (some ⟨pb i, 0, none⟩))).set (i * 2 + 1) (.slice (some ⟨c6, 0, none⟩) L L)
                rw [← hln] at h ⊢
                rw [clk_set] at h
                exact h
              · rcases Nat.lt_succ_iff_lt_or_eq.1 hj with hj | rfl
                · rw [upd_lt hj]
                  have := HRS.out j hj
                  exact ⟨(this.1.spare HS5.out id).spare S2 (nc _ (by omega)), this.2⟩
                · rw [upd_at, hz]
                  exact ⟨HR6.out.spare S2 (nc _ (by omega)), by omega⟩
              · rcases Nat.lt_succ_iff_lt_or_eq.1 hk with hk | rfl
                · rw [upd_lt (by omega), upd_lt hk]; exact HIN.out j k hjk hk
                · rw [upd_lt hjk, upd_at]
                  have := (HRS.out j hjk).1.lt
                  omega
              · exact (HS.out.off HS5.out).new S2 (by omega)
        · obtain rfl : N = i := by omega
          have B := HB3.out.spare HS.out
          have hcl := HCL.out
          have h7 := move_any N n mvb mb smb xs (pl n sel) pb rb wo (HR3.out.spare HS.out id) HXL B.box B.map B.sets (fun j _ p hp => pl_mem hp) (fun j hj => pl_length (HL.out j hj)) B.rank (show mvb < smb by have := B.o1; have := HSZ.out; omega)
          have HCB : Hid (Cbs N wo.heap.size cl mb pb cb) := ⟨fun j hj => ⟨(HRS.out j hj).2, (HRS.out j hj).1.lt⟩, HIN.out, fun j hj => by
            obtain ⟨_, _, r, _⟩ := HB3.out.sets j hj
            have := r.lt
            omega, by have := HB3.out.box.lt; omega, HC.out.lt⟩
          have HB : Hid (Built wo w2.heap.size N N (pl n sel) mb smb psb ksb osb pb rb ob) := B
          clear B hcl
          go_wp2_with (first
            | (go_at_call 7; refine h7.mono ?_; clear h7; rintro e w5 ⟨rfl, seen, os, M5, hall⟩
               have HA : Hid (Aft wo w5 N (wo.heap.size + 2) mvb mb smb wo.heap.size psb ksb osb xs (pl n sel) pb rb ob seen os) := aft_mk HB.out (HR3.out.spare HS.out id) HSZ.out.2 M5 hall
               have HSP5 : Hid (Spare (Touch N mb pb rb) wo w5) := M5.sp
               clear M5 hall))
          have HC5 : Hid (Row w5 cl 49 (clk pb cb (fun j => (pl n sel j).length) N N)) := HC.out.spare HSP5.out (HB.out.untouched _ (by have := HCB.out.m; omega) (.inr (.inr HCB.out.big)))
          have HR5 : Hid (∀ j, j < N → Row w5 (cb j) 47 ((pl n sel j).map (Value.int .u64))) := fun j hj => (HRS.out j hj).1.spare HSP5.out (HB.out.untouched _ (by have := HCB.out.m; have := HCB.out.lt j hj; omega) (.inr (.inr (fun k hk => by have := HCB.out.big k hk; have := HCB.out.lt j hj; omega))))
          have HT5 : Hid (Spare Non w w5) := (HT3.out.off HS.out).then HSP5.out (fun _ _ e => e) (fun k hk e => by
            have o1 := HB.out.o1
            have hz := HSZ.out
            rcases e with e | ⟨j, hj, e⟩
            · omega
            · have := HB.out.o2 j hj; omega)
          have HBX5 : Hid (∃ scr m ys, Row w5 mb 39 [.map (some smb), .pointer none, .map (some wo.heap.size), .slice none 0 0, scr] ∧ w5.ownsRow w5.heap.size 47 1 scr m ys) := ⟨_, 0, [], HA.out.mvd.box, rfl, .inl ⟨rfl, rfl⟩⟩
          clear R4 S4 HC HRS HIN HB3 HT3 HCL HR3 HSP5 HS
          go_loopw [102] (fun ix wr => ∃ i : Nat, i ≤ N ∧ ix = .int .i64 i ∧ Hid (∃ scr m ys, Row wr mb 39 [.map (some smb), .pointer none, .map (some wo.heap.size), .slice none 0 0, scr] ∧ wr.ownsRow w5.heap.size 47 1 scr m ys) ∧ Hid (Spare (fun k => k = mb ∨ ∃ j, j < i ∧ k = cb j) w5 wr)) (fun ix _ => N - (intOf ix).toNat)
          case atStart => exact ⟨0, Nat.zero_le _, by go_num, HBX5, Spare.refl _ _⟩
          case round =>
            revert wr
            intro wl hrel
            obtain ⟨i, hi0, rfl, HBX, HSP⟩ := hrel
            by_cases hi : i < N
            · obtain ⟨scr, m, ys, RMB, OWN⟩ := HBX.out
              have hLl : (pl n sel i).length ≤ 1024 := pl_length (HL.out i hi)
              have hmem : ∀ p ∈ pl n sel i, 0 ≤ p ∧ p < n := fun p hp => pl_mem hp
              have hsrt := pl_sorted n sel i
              obtain ⟨zs, hzs⟩ : ∃ zs, pl n sel i = zs := ⟨_, rfl⟩
              obtain ⟨L, hL⟩ : ∃ L, zs.length = L := ⟨_, rfl⟩
              rw [hzs] at hLl hmem hsrt
              rw [hL] at hLl
              have HZS : Hid (pl n sel i = zs) := hzs
              have HL0 : Hid (zs.length = L) := hL
              have HMEM : Hid (∀ p ∈ zs, 0 ≤ p ∧ p < n) := hmem
              have HSRT : Hid (zs.Pairwise (· ≤ ·)) := hsrt
              obtain ⟨F1, F2, F3, F4, ⟨rb', cp, rst, F5, F6, F7, F8, F9⟩, F10, F11, FN, FM⟩ := fin_rows HA.out HB.out HSZ.out.2 (by omega) hi HCB.out HSP.out HZS HL0 HC5.out HR5.out
              have cps : wl.cell? ⟨psb, i, none⟩ = some (.pointer (some ⟨pb i, 0, none⟩)) := F1.cell (by simp [hi])
              have ccl0 : wl.cell? ⟨cl, i * 2, none⟩ = some (.pointer (some ⟨pb i, 0, none⟩)) := F10.cell (by rw [clk_get (by omega)]; simp [ck, hi])
              have ccl1 : wl.cell? ⟨cl, i * 2 + 1, none⟩ = some (.slice (some ⟨cb i, 0, none⟩) L L) := F10.cell (by rw [clk_get (by omega)]; simp [ck, show (i * 2 + 1) / 2 = i by omega, hi, hzs, hL])
              have SA := Spare.alloc Non wl (.cells #[.pointer (some ⟨pb i, 0, none⟩), .slice (some ⟨cb i, 0, none⟩) L L] 49)
              have h11 := reorder_at HA.out hi HCB.out (HSP.out.off SA) HZS HL0 hLl (RMB.spare SA id) (own_keep OWN SA (fun _ _ => id)) (F11.spare SA id)
              have RBX : Row (wl.alloc (.cells #[.pointer (some ⟨pb i, 0, none⟩), .slice (some ⟨cb i, 0, none⟩) L L] 49)) wl.heap.size 49 [.pointer (some ⟨pb i, 0, none⟩), .slice (some ⟨cb i, 0, none⟩) L L] := Row.alloc wl 49 _
              have hOB : ∀ k, some k = scr.ownBlock → w5.heap.size ≤ k ∧ k < wl.heap.size := fun k hk => own_block OWN hk
              have HPK : Hid (Row wl osb 22 ((List.range N).map (fun j => .slice (some ⟨ob j, 0, none⟩) (pl n sel j).length (pl n sel j).length)) ∧ Row wl (ob i) 3 (zs.map (Value.int .i64)) ∧ Row wl mvb 3 (xs.map (Value.int .i64)) ∧ Row wl (pb i) 41 [.slice (some ⟨rb', 0, none⟩) L cp] ∧ Row wl rb' 3 ((sortd (mapd xs zs)).map (Value.int .i64) ++ rst)) := ⟨F2, F3, F4, F5, F6⟩
              have HOB : Hid (∀ k, some k = scr.ownBlock → w5.heap.size ≤ k ∧ k < wl.heap.size) := hOB
              have HFN : Hid ((osb ≠ mb ∧ ob i ≠ mb ∧ mvb ≠ mb ∧ pb i ≠ mb ∧ rb' ≠ mb) ∧ (osb ≠ cb i ∧ ob i ≠ cb i ∧ mvb ≠ cb i ∧ pb i ≠ cb i ∧ rb' ≠ cb i) ∧ mb < wl.heap.size ∧ cb i < wl.heap.size) := ⟨⟨FN.2.1, FN.2.2.1, FN.2.2.2.1, FN.2.2.2.2.1, F7⟩, ⟨FM.2.1, FM.2.2.1, FM.2.2.2.1, FM.2.2.2.2, F8⟩, RMB.lt, F11.lt⟩
              have HCS : Hid (((List.range N).map (fun j => Value.slice (some ⟨ob j, 0, none⟩) (pl n sel j).length (pl n sel j).length))[i]? = some (.slice (some ⟨ob i, 0, none⟩) L L)) := by
                show _ = _
                simp [hi, hzs, hL]
              have HLT : Hid (osb < w5.heap.size ∧ ob i < w5.heap.size ∧ mvb < w5.heap.size ∧ pb i < w5.heap.size ∧ rb' < w5.heap.size) := ⟨HA.out.os.lt, (HA.out.olds i hi).lt, HA.out.mvr.lt, by have := HA.out.rank.a i hi; have := HA.out.mvd.sp.size; omega, F9⟩
              clear hsrt hmem hzs hL F1 F2 F3 F4 F5 F6 F7 F8 F9 F10 F11 FN FM RMB OWN hOB
              go_wp2_with (first
                | (go_at_call 11; refine h11.mono ?_; clear h11; rintro e w7 ⟨rfl, ⟨perm, P1, P2, RC7⟩, ⟨scr7, n7, x7, RM7, OW7⟩, S7⟩
                   obtain ⟨K1, K2, K3, K4, K5⟩ := HPK.out
                   obtain ⟨⟨p1, p2, p3, p4, p5⟩, ⟨q1, q2, q3, q4, q5⟩, q6, q7⟩ := HFN.out
                   obtain ⟨l1, l2, l3, l4, l5⟩ := HLT.out
                   have J1 := behind_reo S7 HOB.out (K1.spare SA id) p1 q1 (.inl l1)
                   have J2 := behind_reo S7 HOB.out (K2.spare SA id) p2 q2 (.inl l2)
                   have J3 := behind_reo S7 HOB.out (K3.spare SA id) p3 q3 (.inl l3)
                   have J4 := behind_reo S7 HOB.out (K4.spare SA id) p4 q4 (.inl l4)
                   have J5 := behind_reo S7 HOB.out (K5.spare SA id) p5 q5 (.inl l5)
                   have J6 := behind_reo S7 HOB.out RBX (by omega) (by omega) (.inr (Nat.le_refl _))
                   have cos7 : w7.cell? ⟨osb, i, none⟩ = some (.slice (some ⟨ob i, 0, none⟩) L L) := J1.cell HCS.out
                   have cbx7 : w7.cell? ⟨wl.heap.size, 1, none⟩ = some (.slice (some ⟨cb i, 0, none⟩) L L) := J6.cell rfl
                   have cpb7 : w7.cell? ⟨pb i, 0, none⟩ = some (.slice (some ⟨rb', 0, none⟩) L cp) := J4.cell rfl
                   have HP1 : Hid (perm.Perm (List.range L)) := P1
                   have HP2 : Hid ((perm.map fun j => (mapd xs zs).getD j 0) = sortd (mapd xs zs)) := P2
                   have HS7 : Hid (Spare (fun k => k = mb ∨ k = cb i ∨ some k = scr.ownBlock) (wl.alloc (.cells #[.pointer (some ⟨pb i, 0, none⟩), .slice (some ⟨cb i, 0, none⟩) L L] 49)) w7) := S7
                   have HJ : Hid (Row w7 (ob i) 3 (zs.map (Value.int .i64)) ∧ Row w7 mvb 3 (xs.map (Value.int .i64)) ∧ Row w7 (pb i) 41 [.slice (some ⟨rb', 0, none⟩) L cp] ∧ Row w7 rb' 3 ((sortd (mapd xs zs)).map (Value.int .i64) ++ rst)) := ⟨J2, J3, J4, J5⟩
                   have HRC : Hid (Row w7 (cb i) 47 ((perm.map fun j => zs.getD j 0).map (Value.int .u64))) := RC7
                   have HRM7 : Hid (∃ scr m ys, Row w7 mb 39 [.map (some smb), .pointer none, .map (some wo.heap.size), .slice none 0 0, scr] ∧ w7.ownsRow w5.heap.size 47 1 scr m ys) := ⟨scr7, n7, x7, RM7, OW7⟩
                   clear K1 K2 K3 K4 K5 p1 p2 p3 p4 p5 q1 q2 q3 q4 q5 q6 q7 l1 l2 l3 l4 l5 J1 J2 J3 J4 J5 J6 P1 P2 S7 RC7 RM7 OW7 RBX)
                | (at_make; refine L_make _ rfl _ _ 22 rfl 3 _ _ Yba.underlying22 info3 rfl _ _ _ _ L L rfl rfl rfl rfl (by omega) (by omega) (by omega) ?_; intro w8 gb hgb R8 S8
                   have cbx8 : w8.cell? ⟨wl.heap.size, 1, none⟩ = some (.slice (some ⟨cb i, 0, none⟩) L L) := spare_cell S8 cbx7 id))
              obtain ⟨yy, hyy⟩ : ∃ yy, (perm.map fun j => zs.getD j 0) = yy := ⟨_, rfl⟩
              have HYY : Hid ((perm.map fun j => zs.getD j 0) = yy) := hyy
              have HYL : Hid (yy.length = L) := by show _ = _; rw [← hyy, List.length_map, HP1.out.length_eq]; simp
              have HYR : Hid (Row w7 (cb i) 47 (yy.map (Value.int .u64))) := by rw [← hyy]; exact HRC.out
              clear hyy cos7 cpb7 cbx7 HRC
              go_loopw [140] (fun ix wr => ∃ j : Nat, j ≤ L ∧ ix = .int .i64 j ∧ Hid (Row wr gb 3 ((yy.take j).map (Value.int .i64) ++ List.replicate (L - j) (.int .i64 0))) ∧ Hid (Spare Non w7 wr)) (fun ix _ => L - (intOf ix).toNat)
              case atStart => exact ⟨0, Nat.zero_le _, by go_num, R8, S8⟩
              case round =>
                obtain ⟨j, hj0, rfl, HR, HS8⟩ := hrel
                by_cases hj : j < L
                · have hzl : zs.length = L := HL0
                  have hxl : xs.length = n := HXL
                  have hyl : yy.length = L := HYL
                  have hpl : perm.length = L := by rw [HP1.out.length_eq]; simp
                  obtain ⟨f, hf⟩ : ∃ f, perm[j]? = some f := ⟨perm[j]'(by omega), List.getElem?_eq_getElem (by omega)⟩
                  have hfk : f < L := by simpa using HP1.out.mem_iff.1 (List.mem_of_getElem? hf)
                  obtain ⟨p, hp⟩ : ∃ p, zs[f]? = some p := ⟨zs[f]'(by omega), List.getElem?_eq_getElem (by omega)⟩
                  obtain ⟨hp0, hp1⟩ := HMEM.out p (List.mem_of_getElem? hp)
                  obtain ⟨yn, rfl⟩ := Int.eq_ofNat_of_zero_le hp0
                  have hyj : yy[j]? = some (yn : Int) := by rw [← HYY.out, List.getElem?_map, hf]; simp [hp]
                  have hmz : (mapd xs zs).getD f 0 = xs.getD yn 0 := by simp [mapd, hp]
                  have hsj : (sortd (mapd xs zs))[j]? = some (xs.getD yn 0) := by rw [← HP2.out, List.getElem?_map, hf, ← hmz]; rfl
                  have hsl : (sortd (mapd xs zs)).length = L := by rw [sortd_length, mapd_length]; exact hzl
                  obtain ⟨J2, J3, J4, J5⟩ := HJ.out
                  have c1 : wr.cell? ⟨cb i, j, none⟩ = some (.int .u64 yn) := spare_cell HS8.out (HYR.out.cell (by rw [List.getElem?_map, hyj]; rfl)) id
                  have c2 : wr.cell? ⟨mvb, yn, none⟩ = some (.int .i64 (xs.getD yn 0)) := spare_cell HS8.out (J3.cell (by simp [show yn < xs.length by omega])) id
                  have c3 : wr.cell? ⟨pb i, 0, none⟩ = some (.slice (some ⟨rb', 0, none⟩) L cp) := spare_cell HS8.out (J4.cell rfl) id
                  have c4 : wr.cell? ⟨rb', j, none⟩ = some (.int .i64 (xs.getD yn 0)) := spare_cell HS8.out (J5.cell (by rw [List.getElem?_append_left (by rw [List.length_map, hsl]; exact hj), List.getElem?_map, hsj]; rfl)) id
                  have htl : ((yy.take j).map (Value.int .i64)).length = j := by simp; omega
                  have c5 : wr.cell? ⟨gb, j, none⟩ = some (.int .i64 0) := HR.out.cell (at_rep _ j L _ htl hj)
                  have f5 := HR.out.frozen j
                  have hsu : (yy.take (j + 1)).map (Value.int .i64) = (yy.take j).map (Value.int .i64) ++ [.int .i64 (yn : Int)] := by
                    rw [List.take_add_one, hyj]; simp
                  have HSU : Hid ((yy.take (j + 1)).map (Value.int .i64) = (yy.take j).map (Value.int .i64) ++ [.int .i64 (yn : Int)]) := hsu
                  have HTL : Hid (((yy.take j).map (Value.int .i64)).length = j) := htl
                  have hyn : yn < n := by omega
                  have hyn2 : yn ≤ 1024 := by omega
                  generalize xs.getD yn 0 = z at c2 c4
                  have i0 : (0 : Int) ≤ (yn : Int) := by omega
                  have i1 : (yn : Int) < (n : Int) := by omega
                  have i4 : (0 : Int) ≤ (j : Int) := by omega
                  have i5 : (j : Int) < (L : Int) := by omega
                  clear J2 J3 J4 J5 hsu htl hsl hsj hmz hyj hp hf hpl hyl hxl hzl hp1
                  have w0 : IntKind.i64.wrap (yn : Int) = yn := by rw [IntKind.wrap_i64]; omega
                  go_wp2
                  go_quiet (fail)
                  go_wp2
                  go_roundw
                  case rel =>
                    have h := HR.out.set j (.int .i64 (yn : Int))
                    rw [set_rep _ j L _ _ HTL.out hj, ← HSU.out] at h
                    exact ⟨j + 1, by omega, by go_num, h, (HS8.out.new (Spare.setCell wr ⟨gb, j, none⟩ (.int .i64 (yn : Int))) (by have := hgb.out; simp; omega)).redrew rfl rfl rfl rfl⟩
                  case measure => simp [intOf]; omega
                · obtain rfl : L = j := by omega
                  have hyl : yy.length = L := HYL
                  have hzl : zs.length = L := HL0
                  have Rg : Row wr gb 3 (yy.map (Value.int .i64) ++ []) := by
                    have h := HR.out
                    rw [List.take_of_length_le (by omega), Nat.sub_self] at h
                    exact h
                  have hsy : sortd yy = zs := by
                    refine (eq_sortd HSRT.out ?_).symm
                    rw [← HYY.out]
                    have h := HP1.out.map fun j => zs.getD j 0
                    rw [← hzl, getD_range] at h
                    exact h.symm
                  have h9 := sort_at sortC L (m := L) Rg HYL (by omega)
                  rw [hsy] at h9
                  clear hsy hyl hzl HR
                  go_wp2_with (first
                    | (go_at_call 9; refine h9.mono ?_; clear h9; rintro e w9 ⟨rfl, R9, S9⟩
                       have T9 : Spare Non w7 w9 := HS8.out.new S9 (by have := hgb.out; omega)
                       have h8 := equal_same (r2 := []) L L R9 (by rw [List.append_nil]; exact HJ.out.1.spare T9 id) HL0 (by omega))
                    | (go_at_call 8; refine h8.mono ?_; clear h8; rintro e w10 ⟨rfl, q10, rfl⟩))
                  have T10 : Spare Non w7 (w9.drewN q10) := T9.off (Spare.drewN Non w9 q10)
                  have HF1 : Hid (∃ scr m ys, Row (w9.drewN q10) mb 39 [.map (some smb), .pointer none, .map (some wo.heap.size), .slice none 0 0, scr] ∧ (w9.drewN q10).ownsRow w5.heap.size 47 1 scr m ys) := by
                    obtain ⟨scr', m', ys', r1, r2⟩ := HRM7.out
                    exact ⟨scr', m', ys', r1.spare T10 id, own_keep r2 T10 (fun _ _ => id)⟩
                  have HF2 : Hid (Spare (fun k => k = mb ∨ ∃ j, j < i + 1 ∧ k = cb j) w5 (w9.drewN q10)) := by
                    refine ((HSP.out.off SA).then (S := fun k => k = mb ∨ ∃ j, j < i + 1 ∧ k = cb j) HS7.out (fun k _ e => ?_) (fun k hk e => ?_)).off T10
                    · rcases e with e | ⟨j, hj, e⟩
                      · exact .inl e
                      · exact .inr ⟨j, by omega, e⟩
                    · rcases e with e | e | e
                      · exact .inl e
                      · exact .inr ⟨i, by omega, e⟩
                      · have := HOB.out k e; omega
                  exact ⟨⟨i + 1, by omega, by go_num, HF1, HF2⟩, by simp [intOf]; omega⟩
            · have HE : Hid (Spare Non w wl) := HT5.out.then HSP.out (fun _ _ e => e) (fun k hk e => by
                have o1 := HB.out.o1
                have hz := HSZ.out
                have cm := HCB.out.m
                rcases e with e | ⟨j, hj, e⟩
                · omega
                · have := HCB.out.lt j (by omega); omega)
              go_wp2
              go_ret
              exact ⟨rfl, HE.out.below (fun _ _ e => e)⟩
end Go.Proofs.Ybulkcwdy
