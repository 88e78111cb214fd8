/-
  (*clockMaker).move: the walk.
-/
import Derived.Test.YbulkcwdyMvP
import Derived.BigRegion
import Derived.Maps.RangeWalk
namespace Go.Proofs.Ybulkcwdy
open Go.RowKit Go.ChangeMaps

def itLeft (w : World) (r N : Nat) : Nat :=
  match w.heap[r]? with
  | some (.mapIter _ _ seen _) => N - seen.size
  | _ => 0
theorem Iter.left {w : World} {r s N : Nat} {seen : List Nat} (h : Iter w r s N seen) : itLeft w r N = N - seen.length := by
  unfold Iter at h
  simp [itLeft, h]

def half (mv zs : List Int) (k : Nat) : List Int := mapd mv (zs.take k) ++ zs.drop k
theorem half_zero (mv zs : List Int) : half mv zs 0 = zs := by simp [half, mapd]
theorem half_all (mv zs : List Int) (k : Nat) (hk : zs.length = k) : half mv zs k = mapd mv zs := by simp [half, List.take_of_length_le (Nat.le_of_eq hk), List.drop_eq_nil_of_le (Nat.le_of_eq hk)]
theorem half_get (mv zs : List Int) (k : Nat) (rest : List Value) {p : Int} (hp : zs[k]? = some p) : ((half mv zs k).map (Value.int .i64) ++ rest)[k]? = some (.int .i64 p) := by
  have hk := (List.getElem?_eq_some_iff.1 hp).1
  have hl : (mapd mv (zs.take k)).length = k := by rw [mapd_length]; simp; omega
  rw [List.getElem?_append_left (by simp [half, hl]; omega), List.getElem?_map, half, List.getElem?_append_right (by omega), hl, Nat.sub_self, List.getElem?_drop, Nat.add_zero, hp]
  rfl
theorem half_set (mv zs : List Int) (k : Nat) (rest : List Value) {p : Int} (hp : zs[k]? = some p) : ((half mv zs k).map (Value.int .i64) ++ rest).set k (.int .i64 (mv.getD p.toNat 0)) = (half mv zs (k + 1)).map (Value.int .i64) ++ rest := by
  obtain ⟨hk, he⟩ := List.getElem?_eq_some_iff.1 hp
  have hl : (mapd mv (zs.take k)).length = k := by rw [mapd_length]; simp; omega
  have h1 : half mv zs (k + 1) = (half mv zs k).set k (mv.getD p.toNat 0) := by
    unfold half
    rw [List.set_append_right _ _ (by omega), hl, Nat.sub_self, List.drop_eq_getElem_cons hk, List.set_cons_zero, List.take_succ_eq_append_getElem hk, he]
    simp [mapd]
  rw [h1, List.set_append_left _ _ (by simp [half, hl]; omega), List.map_set]

set_option maxRecDepth 100000 in
set_option maxHeartbeats 8000000 in
theorem move_any (N n mvb mb smb : Nat) (mv : List Int) (plf : Nat → List Int) (pb rb : Nat → Nat) (w : World) (hmv : Hid (Row w mvb 3 (mv.map (Value.int .i64)))) (hmvl : Hid (mv.length = n))
    (hbox : Hid (Row w mb 39 [.map (some smb), .pointer none, .map none, .slice none 0 0, .slice none 0 0])) (hmap : Hid (Mp w smb (ents kv (fun j => .pointer (some ⟨pb j, 0, none⟩)) N) N)) (hset : Hid (∀ i, i < N → PSet w (pb i) (rb i) (plf i)))
    (hval : Hid (∀ i, i < N → ∀ p ∈ plf i, 0 ≤ p ∧ p < n)) (hlen : Hid (∀ i, i < N → (plf i).length ≤ 1024)) (K : Hid (Rank N w.heap.size mb smb pb rb)) (hmvb : Hid (mvb < smb)) :
    Calls Yba.prog 7 #[.pointer (some ⟨mb, 0, none⟩), .slice (some ⟨mvb, 0, none⟩) n n] w fun e w' => e = .returned (.tuple #[]) ∧
      ∃ seen os, Mv w w' N w.heap.size (w.heap.size + 2) mb smb w.heap.size (fun i => mapd mv (plf i)) plf pb rb seen os ∧ ∀ i, i < N → i ∈ seen := by
  have hmm : ∀ w, (Instr.makeMap 35 none).run Yba.prog w = .ok (.map (some w.heap.size)) (w.alloc (.map #[] 0)) := fun w => run_makeMap 35 w
  have lm := hbox.out.lt
  have c0 : w.cell? ⟨mb, 0, none⟩ = some (.map (some smb)) := hbox.out.cell rfl
  have c2 : w.cell? ⟨mb, 2, none⟩ = some (.map none) := hbox.out.cell rfl
  have f2 := hbox.out.frozen 2
  have HM1 : Hid (Mp ((w.setCell ⟨mb, 2, none⟩ (.map (some w.heap.size))).alloc (.map #[] 0)) smb (ents kv (fun j => .pointer (some ⟨pb j, 0, none⟩)) N) N) :=
    (hmap.out.spare (Spare.setCell w ⟨mb, 2, none⟩ _) (fun e => by have e' : smb = mb := e; have := K.out.m; omega)).spare (Spare.alloc Non _ _) id
  go_enter Yba.func7, Yba.ntmps7
  go_wp2_with (first
    | (at_range; refine L_range _ rfl _ 33 rfl 9 34 Yba.underlying33 smb N _ rfl HM1.out ?_; intro w1 it hit I1 S1))
  go_frame
  obtain ⟨M0, hitE, HMw1⟩ := mv0 (mp := fun i => mapd mv (plf i)) K.out hbox.out hmap.out hset.out S1 hit.out
  have HIT : Hid (it = w.heap.size + 1) := hitE
  have HI1 : Hid (Iter w1 it smb N []) := I1
  have HM0 : Hid (Mv w w1 N w.heap.size (w.heap.size + 2) mb smb w.heap.size (fun i => mapd mv (plf i)) plf pb rb [] []) := M0
  have HMW : Hid (Mp w1 smb (ents kv (fun j => .pointer (some ⟨pb j, 0, none⟩)) N) N) := HMw1
  clear hitE hit I1 S1 M0 HMw1 c0 c2 f2 HM1
  go_loopw [5] (fun _ wr => ∃ (seen : List Nat) (os : List (Nat × Value)), Hid (Iter wr it smb N seen) ∧ Hid (Mv w wr N w.heap.size (w.heap.size + 2) mb smb w.heap.size (fun i => mapd mv (plf i)) plf pb rb seen os) ∧ Hid (Mp wr smb (ents kv (fun j => .pointer (some ⟨pb j, 0, none⟩)) N) N)) (fun _ wr => itLeft wr it N)
  case atStart => exact ⟨[], [], HI1, HM0, HMW⟩
  case round =>
    revert wr
    intro wo hrel
    obtain ⟨seen, os, HI, HM, HP⟩ := hrel
    go_wp2_with (first
      | (at_next; refine L_next _ rfl _ rfl it smb N seen kv (fun j => .pointer (some ⟨pb j, 0, none⟩)) rfl HI.out HP.out ?_ ?_))
    · intro hall
      go_wp2
      go_end0
      exact ⟨rfl, seen, os, HM.out, hall⟩
    · intro i w2 hi hns I2 S2 hsz hen
      have HI2 : Hid (Iter w2 it smb N (seen ++ [i])) := I2
      have HNS : Hid (i ∉ seen) := hns
      have hitE := HIT.out
      have M2 := HM.out.spare K.out S2 (fun k _ e => by have e' : k = it := e; omega)
      have HP2 : Hid (Mp w2 smb (ents kv (fun j => .pointer (some ⟨pb j, 0, none⟩)) N) N) := HP.out.spare S2 (fun e => by have e' : smb = it := e; have := K.out.m; omega)
      obtain ⟨cp, rest, Rp, Rr⟩ := M2.todo i hi hns
      have HM2 : Hid (Mv w w2 N w.heap.size (w.heap.size + 2) mb smb w.heap.size (fun i => mapd mv (plf i)) plf pb rb seen os) := M2
      have hl := hlen.out i hi
      have hv := hval.out i hi
      have hk := K.out.a i hi
      have HRM : Hid (Row w2 mvb 3 (mv.map (Value.int .i64))) := hmv.out.spare M2.sp (fun e => by
        have h1 := hmvb.out
        have h2 := K.out.m
        rcases e with e | ⟨j, hj, e | e⟩
        · omega
        · have := K.out.a j hj; omega
        · have := K.out.a j hj; omega)
      have h2w := M2.sp.size
      clear hns I2 S2 M2 hitE hsz
      generalize hpb : pb i = pbi at Rp hen hk
      generalize hrb : rb i = rbi at Rp Rr hk
      generalize hzs : plf i = zs at Rp Rr hl hv
      generalize hln : zs.length = ln at Rp hl
      have HPB : Hid (pb i = pbi) := hpb
      have HRB : Hid (rb i = rbi) := hrb
      have HZS : Hid (plf i = zs) := hzs
      have HLN : Hid (zs.length = ln) := hln
      have HV : Hid (∀ p ∈ zs, 0 ≤ p ∧ p < n) := hv
      have HKK : Hid (mb < rbi ∧ rbi < pbi ∧ pbi < w.heap.size) := hk
      have H2W : Hid (w.heap.size ≤ w2.heap.size) := h2w
      have HRP : Hid (Row w2 pbi 41 [.slice (some ⟨rbi, 0, none⟩) ln cp]) := Rp
      have HRR : Hid (Row w2 rbi 3 (zs.map (Value.int .i64) ++ rest)) := Rr
      have cpb : w2.cell? ⟨pbi, 0, none⟩ = some (.slice (some ⟨rbi, 0, none⟩) ln cp) := Rp.cell rfl
      clear hpb hrb hzs hln hv hk h2w Rp Rr
      go_wp2
      have RB := Row.alloc w2 22 [.slice (some ⟨rbi, 0, none⟩) ln cp]
      have SB := Spare.alloc (One rbi) w2 (.cells #[.slice (some ⟨rbi, 0, none⟩) ln cp] 22)
      have RR := HRR.out.spare (Spare.alloc Non w2 (.cells #[.slice (some ⟨rbi, 0, none⟩) ln cp] 22)) id
      generalize hbx : w2.heap.size = bx at RB H2W ⊢
      have HBX : Hid (w2.heap.size = bx) := hbx
      clear hbx
      go_loopw [31] (fun ix wk => ∃ k : Nat, k ≤ ln ∧ ix = .int .i64 k ∧ Hid (Row wk rbi 3 ((half mv zs k).map (Value.int .i64) ++ rest)) ∧ Hid (Row wk bx 22 [.slice (some ⟨rbi, 0, none⟩) ln cp]) ∧ Hid (Spare (One rbi) w2 wk)) (fun ix _ => ln - (intOf ix).toNat)
      case atStart => exact ⟨0, Nat.zero_le _, by go_num, by show Row _ _ _ _; rw [half_zero]; exact RR, RB, SB⟩
      case round =>
        obtain ⟨k, hk0, rfl, HR, HX, HS⟩ := hrel
        by_cases hk : k < ln
        · have hzl : zs.length = ln := HLN
          obtain ⟨p, hp⟩ : ∃ p, zs[k]? = some p := ⟨zs[k]'(by omega), List.getElem?_eq_getElem (by omega)⟩
          obtain ⟨hp0, hp1⟩ := HV.out p (List.mem_of_getElem? hp)
          obtain ⟨pn, rfl⟩ := Int.eq_ofNat_of_zero_le hp0
          have hkk := HKK.out
          have hml : mv.length = n := hmvl
          have hpn : pn < n := by omega
          have c1 : wr.cell? ⟨rbi, k, none⟩ = some (.int .i64 pn) := HR.out.cell (half_get mv zs k rest hp)
          have f1 := HR.out.frozen k
          have c2 : wr.cell? ⟨bx, 0, none⟩ = some (.slice (some ⟨rbi, 0, none⟩) ln cp) := HX.out.cell rfl
          have c3 : wr.cell? ⟨mvb, pn, none⟩ = some (.int .i64 (mv.getD pn 0)) := spare_cell HS.out (HRM.out.cell (by simp [show pn < mv.length by omega])) (fun e => by have e' : mvb = rbi := e; have := hmvb.out; have := K.out.m; omega)
          generalize hy : mv.getD pn 0 = y at c3
          have HY : Hid (mv.getD (Int.toNat (pn : Int)) 0 = y) := hy
          have HPK : Hid (zs[k]? = some (pn : Int)) := hp
          have i0 : (0 : Int) ≤ (pn : Int) := by omega
          have i1 : (pn : Int) < (n : Int) := by omega
          have i2 : (0 : Int) ≤ (k : Int) := by omega
          have i3 : (k : Int) < (ln : Int) := by omega
          clear hy hp hp1 hzl hml hkk
          go_wp2
          go_region
          all_goals
            go_wp2
            go_roundw
            case rel =>
              have h := HR.out.set k (.int .i64 y)
              rw [← HY.out, half_set mv zs k rest HPK.out, HY.out] at h
              refine ⟨k + 1, by omega, by go_num, h, ?_, ?_⟩
              · have hx := HX.out.spare (Spare.setCell wr ⟨rbi, k, none⟩ (.int .i64 y)) (fun e => by have e' : bx = rbi := e; have := HKK.out; have := H2W.out; omega)
                exact hx
              · exact (HS.out.on (Spare.setCell wr ⟨rbi, k, none⟩ (.int .i64 y)) (fun _ => rfl)).redrew rfl rfl rfl rfl
            case measure => simp [intOf]; omega
        · obtain rfl : k = ln := by omega
          have hzl : zs.length = k := HLN
          have hml : (mapd mv zs).length = k := by rw [mapd_length]; exact hzl
          have HRW : Hid (Row wr rbi 3 ((mapd mv zs).map (Value.int .i64) ++ rest)) := by
            have := HR.out
            rw [half_all mv zs k hzl] at this
            exact this
          have c2 : wr.cell? ⟨bx, 0, none⟩ = some (.slice (some ⟨rbi, 0, none⟩) k cp) := HX.out.cell rfl
          have h10 := isSorted_any rbi 0 k cp (some ⟨rbi, 0, none⟩) (mapd mv zs) wr (by omega) (fun _ => rfl) (fun j hj => by
            rw [Nat.zero_add]
            refine HRW.out.cell ?_
            rw [List.getElem?_append_left (by simp [hml]; exact hj)]
            simp [show j < (mapd mv zs).length by omega])
          have HML : Hid ((mapd mv zs).length = k) := hml
          clear hzl hml HR
          go_wp2_with (first
            | (go_at_call 10; refine h10.mono ?_; clear h10; rintro e w3 ⟨hE, q, rfl⟩; rcases hE with ⟨rfl, hs⟩ | ⟨rfl, hs⟩ <;> have HOO : Hid _ := hs <;> clear hs)
            | (go_at_call 14; refine (indices_at k bx rbi cp (mapd mv zs) rest HML (Nat.pos_of_ne_zero (fun h0 => HOO.out (fun j hj => by omega))) hl (wr.drewN q) HX.out HRW.out).mono ?_; rintro e w4 ⟨ordb, rfl, hob, ⟨perm, O4, hperm, hpw⟩, S4⟩
               have HOB : Hid (wr.heap.size ≤ ordb) := hob
               have HPERM : Hid (perm.Perm (List.range k)) := hperm
               have HPW : Hid ((perm.map fun i => (mapd mv zs).getD i 0).Pairwise (· ≤ ·)) := hpw
               have T4 : Spare (One rbi) w2 w4 := (HS.out.redrew rfl rfl rfl rfl : Spare (One rbi) w2 (wr.drewN q)).off S4
               have X4 : Row w4 bx 22 [.slice (some ⟨rbi, 0, none⟩) k cp] := Row.spare (w := wr.drewN q) HX.out S4 id
               have R4 : Row w4 rbi 3 ((mapd mv zs).map (Value.int .i64) ++ rest) := Row.spare (w := wr.drewN q) HRW.out S4 id
               have P4 : Row w4 pbi 41 [.slice (some ⟨rbi, 0, none⟩) k cp] := HRP.out.spare T4 (fun e => by have e' : pbi = rbi := e; have := HKK.out; omega)
               clear hob hperm hpw)
            | (at_make; refine L_make _ rfl _ _ 22 rfl 3 _ _ Yba.underlying22 info3 rfl _ _ _ _ k k rfl rfl rfl rfl (by omega) (by omega) (by omega) ?_; intro w5 b5 hb5 B5 S5
               have cp5 : w5.cell? ⟨pbi, 0, none⟩ = some (.slice (some ⟨rbi, 0, none⟩) k cp) := (P4.spare S5 id).cell rfl
               have fp5 := (P4.spare S5 id).frozen 0))
          · have e1 : pb i = pbi := HPB
            have e2 : rb i = rbi := HRB
            have e3 : plf i = zs := HZS
            subst e1 e2 e3
            have hs' : Spare (One (rb i)) w2 (wr.drewN q) := HS.out.redrew rfl rfl rfl rfl
            have hml : (mapd mv (plf i)).length = k := HML
            have hI := HI2.out.spare hs' (fun e => by have e' : it = rb i := e; have := HIT.out; have := HKK.out; omega)
            refine ⟨⟨seen ++ [i], os, hI, HM2.out.end_sorted (cp := cp) (rest := rest) K.out hs' hi HNS.out (by rw [hml]; exact HRP.out) HRW.out ((inOrder_iff _).1 (by rw [hml]; exact HOO.out)), HP2.out.spare hs' (fun e => by have e' : smb = rb i := e; have := K.out.m; have := HKK.out; omega)⟩, ?_⟩
            rw [hI.left, HI.out.left]
            have := seen_lt HM.out.nd HM.out.lt hi HNS.out
            simp; omega
          · have hkk := HKK.out
            have h2w := H2W.out
            have hbxE := HBX.out
            have hob := HOB.out
            have h5 := hb5.out
            have s1 := HS.out.size
            have s2 := T4.size
            have s4 := O4.lt
            have P6 := (P4.spare S5 id).set 0 (.slice (some ⟨b5, 0, none⟩) k k)
            have X6 := (X4.spare S5 id).spare (Spare.setCell w5 ⟨pbi, 0, none⟩ (.slice (some ⟨b5, 0, none⟩) k k)) (fun e => by have e' : bx = pbi := e; omega)
            have R6 := (R4.spare S5 id).spare (Spare.setCell w5 ⟨pbi, 0, none⟩ (.slice (some ⟨b5, 0, none⟩) k k)) (fun e => by have e' : rbi = pbi := e; omega)
            have O6 := (O4.spare S5 id).spare (Spare.setCell w5 ⟨pbi, 0, none⟩ (.slice (some ⟨b5, 0, none⟩) k k)) (fun e => by have e' : ordb = pbi := e; omega)
            have B6 := B5.spare (Spare.setCell w5 ⟨pbi, 0, none⟩ (.slice (some ⟨b5, 0, none⟩) k k)) (fun e => by have e' : b5 = pbi := e; omega)
            have T6 : Spare (fun x => x = pbi ∨ x = rbi) w2 (w5.setCell ⟨pbi, 0, none⟩ (.slice (some ⟨b5, 0, none⟩) k k)) := ((T4.mono (S' := fun x => x = pbi ∨ x = rbi) (fun _ _ e => .inr e)).off S5).on (Spare.setCell w5 ⟨pbi, 0, none⟩ _) (fun _ => .inl rfl)
            have HNE : Hid (ordb ≠ b5 ∧ pbi ≠ b5 ∧ bx ≠ b5 ∧ rbi ≠ b5 ∧ w.heap.size + 2 ≤ b5 ∧ w.heap.size + 2 ≤ ordb ∧ w2.heap.size ≤ b5) := by
              have := HI2.out.lt
              have := HIT.out
              have hx := X4.lt
              exact ⟨by omega, by omega, by omega, by omega, by omega, by omega, by omega⟩
            generalize hW : w5.setCell ⟨pbi, 0, none⟩ (.slice (some ⟨b5, 0, none⟩) k k) = w6 at P6 X6 R6 O6 B6 T6 ⊢
            have HP6 : Hid (Row w6 pbi 41 [.slice (some ⟨b5, 0, none⟩) k k]) := P6
            have HX6 : Hid (Row w6 bx 22 [.slice (some ⟨rbi, 0, none⟩) k cp]) := X6
            have HR6 : Hid (Row w6 rbi 3 ((mapd mv zs).map (Value.int .i64) ++ rest)) := R6
            have HO6 : Hid (Row w6 ordb 3 (perm.map fun i : Nat => Value.int .i64 (i : Int))) := O6
            have HT6 : Hid (Spare (fun x => x = pbi ∨ x = rbi) w2 w6) := T6
            clear hW hkk h2w hbxE hob h5 s1 s2 s4 P6 X6 R6 O6 T6 P4 X4 R4 O4 T4 S4 S5 cp5 fp5 B5 HX HRW HS RR RB SB cpb c2
            go_loopw [58] (fun ix wk => ∃ j : Nat, j ≤ k ∧ ix = .int .i64 j ∧ Hid (Row wk b5 3 (((perm.take j).map fun i => (mapd mv zs).getD i 0).map (Value.int .i64) ++ List.replicate (k - j) (.int .i64 0))) ∧ Hid (Spare (One b5) w6 wk)) (fun ix _ => k - (intOf ix).toNat)
            case atStart => exact ⟨0, Nat.zero_le _, by go_num, B6, Spare.refl _ _⟩
            case round =>
              obtain ⟨j, hj0, rfl, HR, HS⟩ := hrel
              obtain ⟨n1, n2, n3, n4, n5, n6, n7⟩ := HNE.out
              have hml : (mapd mv zs).length = k := HML
              have hpl : perm.length = k := by rw [HPERM.out.length_eq]; simp
              by_cases hj : j < k
              · obtain ⟨f, hf⟩ : ∃ f, perm[j]? = some f := ⟨perm[j]'(by omega), List.getElem?_eq_getElem (by omega)⟩
                have hfk : f < k := by simpa using HPERM.out.mem_iff.1 (List.mem_of_getElem? hf)
                have c1 : wr.cell? ⟨ordb, j, none⟩ = some (.int .i64 f) := spare_cell HS.out (HO6.out.cell (by rw [List.getElem?_map, hf]; rfl)) n1
                have c2 : wr.cell? ⟨pbi, 0, none⟩ = some (.slice (some ⟨b5, 0, none⟩) k k) := spare_cell HS.out (HP6.out.cell rfl) n2
                have c3 : wr.cell? ⟨bx, 0, none⟩ = some (.slice (some ⟨rbi, 0, none⟩) k cp) := spare_cell HS.out (HX6.out.cell rfl) n3
                have c4 : wr.cell? ⟨rbi, f, none⟩ = some (.int .i64 ((mapd mv zs).getD f 0)) := spare_cell HS.out (HR6.out.cell (by rw [List.getElem?_append_left (by simp [hml]; exact hfk)]; simp [show f < (mapd mv zs).length by omega])) n4
                have htl : (((perm.take j).map fun i => (mapd mv zs).getD i 0).map (Value.int .i64)).length = j := by simp; omega
                have c5 : wr.cell? ⟨b5, j, none⟩ = some (.int .i64 0) := HR.out.cell (at_rep _ j k _ htl hj)
                have f5 := HR.out.frozen j
                have hsu : ((perm.take (j + 1)).map fun i => (mapd mv zs).getD i 0).map (Value.int .i64) = ((perm.take j).map fun i => (mapd mv zs).getD i 0).map (Value.int .i64) ++ [.int .i64 ((mapd mv zs).getD f 0)] := by
                  rw [List.take_add_one, hf]; simp
                generalize hy : (mapd mv zs).getD f 0 = y at c4 hsu
                have HSU : Hid (((perm.take (j + 1)).map fun i => (mapd mv zs).getD i 0).map (Value.int .i64) = ((perm.take j).map fun i => (mapd mv zs).getD i 0).map (Value.int .i64) ++ [.int .i64 y]) := hsu
                have HTL : Hid ((((perm.take j).map fun i => (mapd mv zs).getD i 0).map (Value.int .i64)).length = j) := htl
                have i0 : (0 : Int) ≤ (f : Int) := by omega
                have i1 : (f : Int) < (k : Int) := by omega
                have i2 : (0 : Int) ≤ (j : Int) := by omega
                have i3 : (j : Int) < (k : Int) := by omega
                clear hy hf hsu htl hml hpl n1 n2 n3 n4 n5 n6 n7
                go_wp2
                go_region
                all_goals
                  go_wp2
                  go_roundw
                  case rel =>
                    have h := HR.out.set j (.int .i64 y)
                    rw [set_rep _ j k _ _ HTL.out hj, ← HSU.out] at h
                    exact ⟨j + 1, by omega, by go_num, h, (HS.out.on (Spare.setCell wr ⟨b5, j, none⟩ (.int .i64 y)) (fun _ => rfl)).redrew rfl rfl rfl rfl⟩
                  case measure => simp [intOf]; omega
              · obtain rfl : j = k := by omega
                have hkk := HKK.out
                have hitE := HIT.out
                have e1 : pb i = pbi := HPB
                have e2 : rb i = rbi := HRB
                have e3 : plf i = zs := HZS
                have tt : Spare (fun x => x = pb i ∨ x = rb i) w2 wr := by
                  rw [e1, e2]
                  exact HT6.out.on HS.out (fun e => by omega)
                have bx9 := HM2.out.box.spare tt (fun e => by rw [e1, e2] at e; omega)
                have om9 := HM2.out.ordm.spare tt (fun e => by rw [e1, e2] at e; omega)
                have cm : wr.cell? ⟨mb, 2, none⟩ = some (.map (some w.heap.size)) := bx9.cell rfl
                have rp9 := HP6.out.spare HS.out n2
                have fd := HM2.out.fresh (i := i) K.out tt (fun _ _ e => e) hi HNS.out (t := 41) (xs := [.slice (some ⟨b5, 0, none⟩) j j]) (by rw [e1]; exact rp9)
                rw [e1] at fd
                have HFD : Hid ((Instr.findKey 34 (.pointer (some ⟨pbi, 0, none⟩)) (oEnts os)).run Yba.prog wr = .ok none wr) := fd
                have HOM : Hid (Mp wr w.heap.size (oEnts os) os.length) := om9
                clear fd e1 e2 e3 hkk hitE tt bx9 om9 rp9 hml hpl n1 n2 n3 n4 n5 n6 n7
                go_wp2_with (first
                  | (at_mapUpdate; refine L_update _ rfl _ _ _ 35 rfl 34 22 Yba.underlying35 w.heap.size rfl _ _ HOM.out (.pointer (some ⟨pbi, 0, none⟩)) (.slice (some ⟨ordb, 0, none⟩) j j) rfl rfl (check_ptr _ Yba.underlying34 _ false) HFD.out ?_; intro w9 M9 S9))
                have e1 : pb i = pbi := HPB
                have e2 : rb i = rbi := HRB
                have e3 : plf i = zs := HZS
                subst e1 e2 e3
                obtain ⟨n1, n2, n3, n4, n5, n6, n7⟩ := HNE.out
                have hkk := HKK.out
                have hitE := HIT.out
                have hml : (mapd mv (plf i)).length = j := HML
                subst hml
                have hpl : perm.length = (mapd mv (plf i)).length := by rw [HPERM.out.length_eq]; simp
                have tt : Spare (fun x => x = pb i ∨ x = rb i) w2 wr := HT6.out.on HS.out (fun e => by omega)
                have tn : Spare (fun x => (x = pb i ∨ x = rb i) ∨ x = w.heap.size) w2 w9 := tt.then S9 (fun _ _ e => .inl e) (fun _ _ e => .inr e)
                have hR := HR.out
                rw [List.take_of_length_le (by omega), Nat.sub_self, List.replicate_zero, List.append_nil, order_ok HPERM.out HPW.out] at hR
                have hS : isS (mapd mv (plf i)) = false := by
                  cases hb : isS (mapd mv (plf i)) with
                  | false => rfl
                  | true => exact absurd ((inOrder_iff _).2 hb) HOO.out
                have M := HM2.out.end_unsorted (i := i) K.out tt hi HNS.out (HP6.out.spare HS.out n2) hR (HO6.out.spare HS.out n1) HPERM.out HPW.out n5 n6 M9 S9 hS
                have hI := HI2.out.spare tn (fun e => by omega)
                go_frame
                go_roundw
                case rel => exact ⟨_, _, hI, M, HP2.out.spare tn (fun e => by have := K.out.m; omega)⟩
                case measure =>
                  rw [hI.left, HI.out.left]
                  have := seen_lt HM.out.nd HM.out.lt hi HNS.out
                  simp; omega
end Go.Proofs.Ybulkcwdy
