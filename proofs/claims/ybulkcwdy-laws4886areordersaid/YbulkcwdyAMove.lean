/-
  LawS4886AMove: the walk.
-/
import Derived.Test.YbulkcwdyAft
import Derived.Deep.QuietTactic
import Derived.BigQuiet
import Derived.Deep.RegionLaw
namespace Go.Proofs.Ybulkcwdy
open Go.RowKit Go.ChangeMaps

structure Sets (W : World) (ao : Option Addr) (sb so N : Nat) (sel : Nat → List Int) (sA : Nat → Option Addr) (sC : Nat → Nat) : Prop where
  top : 0 < N → ao = some ⟨sb, so, none⟩
  cell : ∀ i, i < N → W.cell? ⟨sb, so + i, none⟩ = some (.slice (sA i) (sel i).length (sC i))
  each : ∀ i, i < N → 0 < (sel i).length → ∃ b o, sA i = some ⟨b, o, none⟩ ∧ ∀ j x, (sel i)[j]? = some x → W.cell? ⟨b, o + j, none⟩ = some (.int .u16 x)
  val : ∀ i, i < N → ∀ x ∈ sel i, 0 ≤ x ∧ x ≤ 65535
theorem Sets.came {W w : World} {ao : Option Addr} {sb so N : Nat} {sel : Nat → List Int} {sA : Nat → Option Addr} {sC : Nat → Nat} (h : Sets W ao sb so N sel sA sC) (hs : Spare Non W w) (hl : ∀ i, i < N → (sel i).length ≤ 1024) : Came w ao sb so N sel sA sC :=
  ⟨h.top, fun i hi => spare_cell hs (h.cell i hi) id, hl, fun i hi h0 => by
    obtain ⟨b, o, h1, h2⟩ := h.each i hi h0
    exact ⟨b, o, h1, fun j x hx => spare_cell hs (h2 j x hx) id⟩, h.val⟩
structure Ints (W : World) (ma : Option Addr) (b o n : Nat) (xs : List Int) : Prop where
  len : xs.length = n
  top : 0 < n → ma = some ⟨b, o, none⟩
  cell : ∀ j x, xs[j]? = some x → W.cell? ⟨b, o + j, none⟩ = some (.int .i64 x)
theorem Ints.src {W w : World} {ma : Option Addr} {b o n : Nat} {xs : List Int} (h : Ints W ma b o n xs) (hs : Spare Non W w) : 0 < n → ∃ ad, ma = some ad ∧ ∀ j v, (xs.map (Value.int .i64))[j]? = some v → w.cell? (ad.add j) = some v := fun hn =>
  ⟨_, h.top hn, fun j v hv => by
    rw [Addr.add_mid]
    rw [List.getElem?_map] at hv
    obtain ⟨x, hx, rfl⟩ := Option.map_eq_some_iff.1 hv
    exact spare_cell hs (h.cell j x hx) id⟩
theorem Ints.equal {W w : World} {ma : Option Addr} {b o n : Nat} {xs : List Int} (h : Ints W ma b o n xs) (hs : Spare Non W w) {b1 : Nat} (R : Row w b1 3 (xs.map (Value.int .i64))) (hn : n ≤ 1024) (c1 c2 : Nat) :
    Calls Yba.prog 8 #[.slice (some ⟨b1, 0, none⟩) n c1, .slice ma n c2] w fun e w' => e = .returned (.bool true) ∧ ∃ q, w' = w.drewN q := by
  by_cases h0 : n = 0
  · subst h0
    exact (Yba.slices_Equal_int_empty _ _ _ 0 _ w (by omega)).mono fun e w' ⟨he, hw⟩ => ⟨by rw [he]; rfl, 0, hw⟩
  · have hl := h.len
    rw [h.top (by omega)]
    have := Yba.slices_Equal_int b1 0 n c1 b o n c2 xs xs w (by omega) (by omega) (by omega) (by omega) (fun j hj => by rw [Nat.zero_add]; exact R.cell (by simp [hj])) (fun j hj => spare_cell hs (h.cell j _ (by simp [hj])) id)
    exact this.mono fun e w' ⟨he, hw⟩ => ⟨by rw [he]; simp, hw⟩

theorem ents_length (kf vf : Nat → Value) (n : Nat) : (ents kf vf n).length = n := by simp [ents]
theorem sets_look {w : World} {smb N i : Nat} {pb : Nat → Nat} (h : Mp w smb (ents kv (fun j => .pointer (some ⟨pb j, 0, none⟩)) N) N) (hN : N ≤ 256) (hi : i < N) : (Instr.lookup 33 (.map (some smb)) (kv i) false).run Yba.prog w = .ok (.pointer (some ⟨pb i, 0, none⟩)) w := by
  obtain ⟨j, hj⟩ := key_found w (fun j => .pointer (some ⟨pb j, 0, none⟩)) i N hN hi
  simp [Instr.lookup, run_underlying Yba.underlying33, MapKept.run_getObj_map h, key_check, hj]
theorem ptr_neq (w : World) (b : Nat) : (binOp .neq 34 (.pointer (some ⟨b, 0, none⟩)) (.pointer (some ⟨b, 0, none⟩))).run Yba.prog w = .ok (.bool false) w := by
  obtain ⟨ti, hti, _⟩ := info_parts (show (Yba.prog.info? 41).map (fun i => (i.zero, i.size, i.bytes)) = some (some (.agg #[.slice none 0 0]), 1, 24) by kernel_rfl)
  have h : ∀ d : Nat, (Op.equalIn (d + 1) 34 (.pointer (some ⟨b, 0, none⟩)) (.pointer (some ⟨b, 0, none⟩))).run Yba.prog w = .ok true w := fun d => by
    simp [Op.equalIn, run_underlying Yba.underlying34, sizeOf, typeInfo, hti, run_sameAddr_same]
  simp only [binOp]
  simp [Op.equal, Op.maxDepth, h 9999]

theorem wpQuiet_val {P : Program} {ops : Array Oper} {C : World → Prop} {Q : Act → Prop} {a : Act} {o : Oper} {rest : List Oper} (hg : o.guard = none) (v : Value)
    (hrun : ∀ w, C w → (execOp a.eval o).run P w = .ok (.value v) w) (h : wpQuiet P ops C Q rest (a.put o.dst v)) : wpQuiet P ops C Q (o :: rest) a := by
  unfold wpQuiet
  rw [if_pos (by simp [Region.wanted, hg])]
  exact ⟨v, fun w hw => by unfold Oper.quietAt; rw [hrun w hw]; exact ⟨rfl, rfl⟩, h⟩
theorem quiet_lookup {P : Program} {ops : Array Oper} {C : World → Prop} {Q : Act → Prop} {a : Act} {o : Oper} {rest : List Oper} (hg : o.guard = none) (m x : Operand) (t : TypeId) (ok : Bool) (ho : o.op = .lookup t m x ok) (mv xv v : Value) (hm : a.eval m = mv) (hx : a.eval x = xv)
    (hrun : ∀ w, C w → (Instr.lookup t mv xv ok).run P w = .ok v w) (h : wpQuiet P ops C Q rest (a.put o.dst v)) : wpQuiet P ops C Q (o :: rest) a :=
  wpQuiet_val hg v (fun w hw => by simp [execOp, ho, hm, hx, hrun w hw]) h
theorem quiet_neqp {ops : Array Oper} {C : World → Prop} {Q : Act → Prop} {a : Act} {o : Oper} {rest : List Oper} (hg : o.guard = none) (x y : Operand) (t : TypeId) (ho : o.op = .binOp .neq 34 x y t) (b : Nat) (hx : a.eval x = .pointer (some ⟨b, 0, none⟩)) (hy : a.eval y = .pointer (some ⟨b, 0, none⟩))
    (h : wpQuiet Yba.prog ops C Q rest (a.put o.dst (.bool false))) : wpQuiet Yba.prog ops C Q (o :: rest) a :=
  wpQuiet_val hg _ (fun w _ => by simp [execOp, ho, hx, hy, ptr_neq, eqGuard]) h

theorem sorted_row {w : World} {b m : Nat} (c : Nat) {zs : List Int} {rest : List Value} (R : Row w b 3 (zs.map (Value.int .i64) ++ rest)) (hm : Hid (zs.length = m)) (h : m ≤ 1024) :
    Calls Yba.prog 10 #[.slice (some ⟨b, 0, none⟩) m c] w fun e w' => e = .returned (.bool (isS zs)) ∧ ∃ q, w' = w.drewN q := by
  have hm' : zs.length = m := hm
  refine (isSorted_any b 0 m c (some ⟨b, 0, none⟩) zs w (by omega) (fun _ => rfl) (fun j hj => by
    rw [Nat.zero_add]
    refine R.cell ?_
    rw [List.getElem?_append_left (by simp; omega)]
    simp [show j < zs.length by omega])).mono fun e w' ⟨he, hw⟩ => ⟨?_, hw⟩
  subst hm'
  rcases he with ⟨he, h1⟩ | ⟨he, h1⟩
  · rw [he, (inOrder_iff zs).1 h1]
  · rw [he]
    cases hb : isS zs with
    | false => rfl
    | true => exact absurd ((inOrder_iff zs).2 hb) h1
theorem equal_same {w : World} {b1 b2 m : Nat} (c1 c2 : Nat) {zs : List Int} {r1 r2 : List Value} (R1 : Row w b1 3 (zs.map (Value.int .i64) ++ r1)) (R2 : Row w b2 3 (zs.map (Value.int .i64) ++ r2)) (hm : Hid (zs.length = m)) (h : m ≤ 1024) :
    Calls Yba.prog 8 #[.slice (some ⟨b1, 0, none⟩) m c1, .slice (some ⟨b2, 0, none⟩) m c2] w fun e w' => e = .returned (.bool true) ∧ ∃ q, w' = w.drewN q := by
  have hm' : zs.length = m := hm
  subst hm'
  exact (equal_at (c1 := c1) (c2 := c2) R1 R2 (by omega) (by omega)).mono fun e w' ⟨he, hw⟩ => ⟨by rw [he]; simp, hw⟩
theorem info4 : (Yba.prog.info? 4).map (fun i => (i.zero, i.size, i.bytes)) = some (some (.bool false), 1, 1) := by kernel_rfl
theorem L_look {w0 : World} (w : World) {ops : Array Oper} {rest : List Oper} {o : Oper} {a : Act} {Q : Exit → Act → World → Prop} {N E mvb mb smb ord psb ksb osb : Nat} {mv : List Int} {plf : Nat → List Int} {pb rb ob : Nat → Nat} {seen : List Nat} {os : List (Nat × Value)} {i : Nat}
    (hg : o.guard = none) (m x : Operand) (hop : o.op = Op.lookup 35 m x true) (h : Aft w0 w N E mvb mb smb ord psb ksb osb mv plf pb rb ob seen os) (hi : i < N) (hm : a.eval m = .map (some ord)) (hx : a.eval x = .pointer (some ⟨pb i, 0, none⟩)) {zs : List Int} (hz : Hid (plf i = zs)) {L : Nat} (hL : Hid (zs.length = L))
    (hK0 : isS (mapd mv zs) = true → wpList Yba.prog ops Q rest (a.put o.dst (.tuple #[.slice none 0 0, .bool false])) w)
    (hK1 : ∀ (ordb : Nat) (perm : List Nat), isS (mapd mv zs) = false → Row w ordb 3 (perm.map fun i : Nat => Value.int .i64 (i : Int)) → Hid (perm.Perm (List.range L)) → Hid ((perm.map fun j => (mapd mv zs).getD j 0) = sortd (mapd mv zs)) →
      wpList Yba.prog ops Q rest (a.put o.dst (.tuple #[.slice (some ⟨ordb, 0, none⟩) L L, .bool true])) w) : wpList Yba.prog ops Q (o :: rest) a w := by
  have hz' : plf i = zs := hz
  have hL' : zs.length = L := hL
  subst hz' hL'
  obtain ⟨r, hr, h1⟩ := h.mvd.look h.rank h.hall hi
  refine L_lookup w hg m x 35 true hop 34 22 Yba.underlying35 (.slice none 0 0) (by kernel_rfl) ord hm _ _ h.mvd.ordm _ hx (fun f => check_ptr w Yba.underlying34 _ f) r hr ?_
  rcases h1 with ⟨h1, rfl⟩ | ⟨h1, k, v, rfl, ordb, perm, rfl, _, h3, h4, h5⟩
  · exact hK0 h1
  · rw [mapd_length] at h4
    have := hK1 ordb perm h1 h3 h4 h5
    rw [← mapd_length mv (plf i)] at this
    exact this
theorem set_at {w0 w : World} {N E mvb mb smb ord psb ksb osb : Nat} {mv : List Int} {plf : Nat → List Int} {pb rb ob : Nat → Nat} {seen : List Nat} {os : List (Nat × Value)} {i : Nat} (h : Aft w0 w N E mvb mb smb ord psb ksb osb mv plf pb rb ob seen os) (hi : i < N) {zs : List Int} (hz : Hid (plf i = zs)) {L : Nat} (hL : Hid (zs.length = L)) :
    ∃ rb' cp rest, Row w (pb i) 41 [.slice (some ⟨rb', 0, none⟩) L cp] ∧ Row w rb' 3 ((sortd (mapd mv zs)).map (Value.int .i64) ++ rest) := by
  have hz' : plf i = zs := hz
  have hL' : zs.length = L := hL
  subst hz' hL'
  obtain ⟨rb', ⟨cp, rest, r1, r2⟩, _⟩ := h.mvd.done i (h.hall i hi)
  rw [sortd_length, mapd_length] at r1
  exact ⟨rb', cp, rest, r1, r2⟩

def cnt (U : Nat → Bool) (i : Nat) : Nat := ((List.range i).filter U).length
theorem cnt_le (U : Nat → Bool) (i : Nat) : cnt U i ≤ i := Nat.le_trans (List.length_filter_le _ _) (by simp)
theorem cnt_succ (U : Nat → Bool) (i : Nat) : cnt U (i + 1) = cnt U i + (if U i then 1 else 0) := by
  unfold cnt
  rw [List.range_succ, List.filter_append]
  by_cases h : U i <;> simp [h]

theorem seen_zero {w : World} {eb L : Nat} {perm : List Nat} (R : Row w eb 4 (List.replicate L (.bool false))) : Row w eb 4 ((List.range L).map fun k => Value.bool (decide (k ∈ perm.take 0))) := by
  have : ((List.range L).map fun k => Value.bool (decide (k ∈ perm.take 0))) = List.replicate L (.bool false) := by
    apply List.ext_getElem
    · simp
    · intro i h1 h2
      simp
  rw [this]
  exact R
theorem seen_not {perm : List Nat} {j f L : Nat} (hnd : perm.Nodup) (hf : perm[j]? = some f) (hL : f < L) : ((List.range L).map fun k => Value.bool (decide (k ∈ perm.take j)))[f]? = some (.bool false) := by
  have hn : f ∉ perm.take j := by
    intro h
    obtain ⟨k, hk, he⟩ := List.getElem_of_mem h
    obtain ⟨hj, hej⟩ := List.getElem?_eq_some_iff.1 hf
    rw [List.getElem_take] at he
    have hk' : k < j := by simp at hk; omega
    have := (List.getElem_inj (h₀ := by omega) (h₁ := hj) hnd).1 (he.trans hej.symm)
    omega
  simp [hL, hn]
theorem seen_set {w : World} {perm : List Nat} {j f eb L : Nat} (R : Row w eb 4 ((List.range L).map fun k => Value.bool (decide (k ∈ perm.take j)))) (hf : perm[j]? = some f) : Row (w.setCell ⟨eb, f, none⟩ (.bool true)) eb 4 ((List.range L).map fun k => Value.bool (decide (k ∈ perm.take (j + 1)))) := by
  have h := R.set f (.bool true)
  have : ((List.range L).map fun k => Value.bool (decide (k ∈ perm.take j))).set f (.bool true) = (List.range L).map fun k => Value.bool (decide (k ∈ perm.take (j + 1))) := by
    apply List.ext_getElem
    · simp
    · intro k h1 h2
      rw [List.getElem_set]
      by_cases hk : f = k
      · subst hk
        simp [List.take_add_one, hf]
      · have hk' : ¬ k = f := fun e => hk e.symm
        simp [hk, List.take_add_one, hf, hk']
  rw [this] at h
  exact h

set_option maxRecDepth 100000 in
set_option maxHeartbeats 8000000 in
theorem amove_any (ma : Option Addr) (b0 o0 n mc : Nat) (xs : List Int) (sa : Option Addr) (sb so N sc : Nat) (sel : Nat → List Int) (sA : Nat → Option Addr) (sC : Nat → Nat) (w : World) (hI : Hid (Ints w ma b0 o0 n xs)) (hS : Hid (Sets w sa sb so N sel sA sC)) (hn : n ≤ 1024) (hN : N ≤ 256) :
    Calls Yba.prog 3 #[.slice ma n mc, .slice sa N sc] w fun e w' => e = .returned (.bool true) ∧ Below w.heap.size w w' := by
  go_enter Yba.func3, Yba.ntmps3
  go_wp2
  go_loopw [35] (fun ix wr => ∃ i : Nat, i ≤ N ∧ ix = .int .i64 i ∧ Hid (∀ j, j < i → (sel j).length ≤ 1024) ∧ w = wr) (fun ix _ => N - (intOf ix).toNat)
  case atStart => exact ⟨0, Nat.zero_le _, by go_num, fun j hj => by omega, rfl⟩
  case round =>
    obtain ⟨i, hi0, rfl, HL, hw⟩ := hrel
    subst hw
    by_cases hi : i < N
    · obtain rfl := hS.out.top (by omega)
      have c0 := hS.out.cell i hi
      by_cases hl : (sel i).length ≤ 1024
      · have HL1 : Hid ((sel i).length ≤ 1024) := hl
        generalize (sel i).length = ln at c0 hl
        go_wp2
        go_roundw
        case rel => exact ⟨i + 1, by omega, by go_num, fun j hj => by rcases Nat.lt_succ_iff_lt_or_eq.1 hj with h | rfl; exact HL.out j h; exact HL1.out, by trivial⟩
        case measure => simp [intOf]; omega
      · generalize (sel i).length = ln at c0 hl
        go_wp2
        go_ret
        exact ⟨rfl, Below.refl _ _⟩
    · obtain rfl : N = i := by omega
      have hxl : xs.length = n := hI.out.len
      have HXL : Hid (xs.length = n) := hxl
      clear hxl
      go_wp2_with (first
        | (at_make; refine L_make _ rfl _ _ 22 rfl 3 _ _ Yba.underlying22 info3 rfl _ _ _ _ n n rfl rfl rfl rfl (by omega) (by omega) (by omega) ?_; intro w1 mvb hmvb R1 S1)
        | (refine L_copy _ rfl _ _ 22 22 rfl 3 Yba.underlying22 size3 mvb n n mc ma rfl rfl _ (xs.map (Value.int .i64)) 3 R1 (by simp) (len_map HXL) (hI.out.src S1) (ints_one xs) ?_; intro w2 R2 S2
           have T2 : Spare Non w w2 := S1.new S2 (by have := hmvb.out; omega)
           have l2 := R2.lt)
        | (go_at_call 6; refine (build_any sortC compactC n hn sa sb so N sc sel sA sC w2 (hS.out.came T2 HL.out) hN).mono ?_; rintro e w3 ⟨mb, smb, psb, ksb, osb, rfl, ⟨pb, rb, ob, B3⟩, S3⟩
           have HB3 : Hid (Built w3 w2.heap.size N N (pl n sel) mb smb psb ksb osb pb rb ob) := B3
           have HT3 : Hid (Spare Non w w3) := T2.off S3
           have HR3 : Hid (Row w3 mvb 3 (xs.map (Value.int .i64))) := R2.spare S3 id
           have h7 := move_any N n mvb mb smb xs (pl n sel) pb rb w3 HR3 HXL B3.box B3.map B3.sets (fun j _ p hp => pl_mem hp) (fun j hj => pl_length (HL.out j hj)) B3.rank (show mvb < smb by have := B3.o1; omega)
           clear B3)
        | (go_at_call 7; refine h7.mono ?_; clear h7; rintro e w4 ⟨rfl, seen, os, M4, hall⟩
           have A4 := aft_mk HB3.out HR3.out l2 M4 hall
           have HA4 : Hid (Aft w3 w4 N (w3.heap.size + 2) mvb mb smb w3.heap.size psb ksb osb xs (pl n sel) pb rb ob seen os) := A4
           have T4 : Spare Non w w4 := HT3.out.then M4.sp (fun _ _ e => e) (fun k hk e => by
             have hs := T2.size
             have o1 := HB3.out.o1
             rcases e with e | ⟨j, hj, e⟩
             · omega
             · have := HB3.out.o2 j hj; omega)
           have HT4 : Hid (Spare Non w w4) := T4
           have c0 : w4.cell? ⟨mb, 0, none⟩ = some (.map (some smb)) := M4.box.cell rfl
           have h8 := hI.out.equal T4 A4.mvr hn n mc
           clear A4 M4 hall T4)
        | (go_at_call 8; refine h8.mono ?_; clear h8; rintro e w5 ⟨rfl, q, rfl⟩)
        | (refine L_len_map _ rfl _ 33 rfl 9 34 Yba.underlying33 smb rfl _ N HA4.out.map ?_; rw [ents_length]))
      have HA5 : Hid (Aft w3 (w4.drewN q) N (w3.heap.size + 2) mvb mb smb w3.heap.size psb ksb osb xs (pl n sel) pb rb ob seen os) := HA4.out.spare (Spare.drewN Non w4 q)
      have HT5 : Hid (Spare Non w (w4.drewN q)) := HT4.out.off (Spare.drewN Non w4 q)
      generalize w4.drewN q = w5 at HA5 HT5 ⊢
      obtain ⟨U, hU⟩ : ∃ U : Nat → Bool, U = fun i => !isS (mapd xs (pl n sel i)) := ⟨_, rfl⟩
      have HU : Hid (U = fun i => !isS (mapd xs (pl n sel i))) := hU
      clear hU HA4 HT4 c0 HR3 HT3 S3 l2 T2 S2 R2 S1 R1
      go_loopw [12, 75] (fun uns ix wr => ∃ i : Nat, i ≤ N ∧ ix = .int .i64 i ∧ uns = .int .i64 (cnt U i : Nat) ∧ Hid (Aft w3 wr N (w3.heap.size + 2) mvb mb smb w3.heap.size psb ksb osb xs (pl n sel) pb rb ob seen os) ∧ Hid (Spare Non w wr)) (fun _ ix _ => N - (intOf ix).toNat)
      case atStart => exact ⟨0, Nat.zero_le _, by go_num, by go_num, HA5, HT5⟩
      case round =>
        revert wr
        intro wo hrel
        obtain ⟨i, hi0, rfl, rfl, HA, HT⟩ := hrel
        have cm0 : wo.cell? ⟨mb, 0, none⟩ = some (.map (some smb)) := HA.out.mvd.box.cell rfl
        have cm2 : wo.cell? ⟨mb, 2, none⟩ = some (.map (some w3.heap.size)) := HA.out.mvd.box.cell rfl
        by_cases hi : i < N
        · have cps : wo.cell? ⟨psb, i, none⟩ = some (.pointer (some ⟨pb i, 0, none⟩)) := HA.out.ps.cell (by simp [hi])
          have cks : wo.cell? ⟨ksb, i, none⟩ = some (kv i) := HA.out.ks.cell (by simp [hi])
          have cos : wo.cell? ⟨osb, i, none⟩ = some (.slice (some ⟨ob i, 0, none⟩) (pl n sel i).length (pl n sel i).length) := HA.out.os.cell (by simp [hi])
          have i2 : (0 : Int) ≤ (i : Int) := by omega
          have i3 : (i : Int) < (N : Int) := by omega
          go_wp2
          refine wp_region_quiet_lit (by kernel_rfl) (by kernel_rfl) ?_
          repeat (go_big_quiet_step (fail))
          refine quiet_lookup rfl _ _ _ _ rfl (.map (some smb)) (kv i) (.pointer (some ⟨pb i, 0, none⟩)) rfl rfl (fun w' ⟨m, hm⟩ => by rw [hm]; exact sets_look (w := wo.drewN m) HA.out.map hN hi) ?_
          try simp only [Act.put, List.setIfInBounds_toArray, List.set_cons_zero, List.set_cons_succ]
          repeat (go_big_quiet_step (fail))
          refine quiet_neqp rfl _ _ _ rfl (pb i) rfl rfl ?_
          refine wpQuiet_nil ?_
          rintro _ ⟨nq, rfl⟩
          try simp only [Act.put, List.setIfInBounds_toArray, List.set_cons_zero, List.set_cons_succ]
          have HAq : Hid (Aft w3 (wo.drewN nq) N (w3.heap.size + 2) mvb mb smb w3.heap.size psb ksb osb xs (pl n sel) pb rb ob seen os) := HA.out.spare (Spare.drewN Non wo nq)
          have HTq : Hid (Spare Non w (wo.drewN nq)) := HT.out.off (Spare.drewN Non wo nq)
          generalize wo.drewN nq = wq at HAq HTq ⊢
          clear cm0 cm2 cps cks cos
          have cos : wq.cell? ⟨osb, i, none⟩ = some (.slice (some ⟨ob i, 0, none⟩) (pl n sel i).length (pl n sel i).length) := HAq.out.os.cell (by simp [hi])
          have HOL : Hid (Row wq (ob i) 3 ((pl n sel i).map (Value.int .i64))) := HAq.out.olds i hi
          have hLl : (pl n sel i).length ≤ 1024 := pl_length (HL.out i hi)
          have hmem : ∀ p ∈ pl n sel i, 0 ≤ p ∧ p < n := fun p hp => pl_mem hp
          generalize hzs : pl n sel i = zs at cos HOL hLl hmem
          have HZS : Hid (pl n sel i = zs) := hzs
          have HMEM : Hid (∀ p ∈ zs, 0 ≤ p ∧ p < n) := hmem
          clear hzs hmem
          generalize hL : zs.length = L at cos hLl
          have HL0 : Hid (zs.length = L) := hL
          clear hL
          go_wp2_with (first
            | (at_make; refine L_make _ rfl _ _ 22 rfl 3 _ _ Yba.underlying22 info3 rfl _ _ _ _ L L rfl rfl rfl rfl (by omega) (by omega) (by omega) ?_; intro w6 m6 hm6 R6 S6))
          go_loopw [100] (fun ix wr => ∃ j : Nat, j ≤ L ∧ ix = .int .i64 j ∧ Hid (Row wr m6 3 ((mapd xs (zs.take j)).map (Value.int .i64) ++ List.replicate (L - j) (.int .i64 0))) ∧ Hid (Spare Non wq wr)) (fun ix _ => L - (intOf ix).toNat)
          case atStart => exact ⟨0, Nat.zero_le _, by go_num, R6, S6⟩
          case round =>
            obtain ⟨j, hj0, rfl, HR, HS⟩ := hrel
            by_cases hj : j < L
            · have hzl : zs.length = L := HL0
              have hxl : xs.length = n := HXL
              obtain ⟨p, hp⟩ : ∃ p, zs[j]? = some p := ⟨zs[j]'(by omega), List.getElem?_eq_getElem (by omega)⟩
              obtain ⟨hp0, hp1⟩ := HMEM.out p (List.mem_of_getElem? hp)
              obtain ⟨pn, rfl⟩ := Int.eq_ofNat_of_zero_le hp0
              have c1 : wr.cell? ⟨ob i, j, none⟩ = some (.int .i64 pn) := spare_cell HS.out (HOL.out.cell (by rw [List.getElem?_map, hp]; rfl)) id
              have c2 : wr.cell? ⟨mvb, pn, none⟩ = some (.int .i64 (xs.getD pn 0)) := spare_cell HS.out (HAq.out.mvr.cell (by simp [show pn < xs.length by omega])) id
              have htl : ((mapd xs (zs.take j)).map (Value.int .i64)).length = j := by simp [mapd_length]; omega
              have c3 : wr.cell? ⟨m6, j, none⟩ = some (.int .i64 0) := HR.out.cell (at_rep _ j L _ htl hj)
              have f3 := HR.out.frozen j
              have hsu : (mapd xs (zs.take (j + 1))).map (Value.int .i64) = (mapd xs (zs.take j)).map (Value.int .i64) ++ [.int .i64 (xs.getD pn 0)] := by
                rw [List.take_add_one, hp]; simp [mapd]
              have hpn : pn < n := by omega
              generalize hy : xs.getD pn 0 = y at c2 hsu
              have HSU : Hid ((mapd xs (zs.take (j + 1))).map (Value.int .i64) = (mapd xs (zs.take j)).map (Value.int .i64) ++ [.int .i64 y]) := hsu
              have HTL : Hid (((mapd xs (zs.take j)).map (Value.int .i64)).length = j) := htl
              clear hy hp hsu htl hzl hxl hp1
              go_wp2
              go_roundw
              case rel =>
                have h := HR.out.set j (.int .i64 y)
                rw [set_rep _ j L _ _ HTL.out hj, ← HSU.out] at h
                exact ⟨j + 1, by omega, by go_num, h, HS.out.new (Spare.setCell wr ⟨m6, j, none⟩ _) (by have := hm6.out; simp; omega)⟩
              case measure => simp [intOf]; omega
            · obtain rfl : L = j := by omega
              have hzl : zs.length = L := HL0
              have HML : Hid ((mapd xs zs).length = L) := by show _ = _; rw [mapd_length]; exact hzl
              have HSL : Hid ((sortd (mapd xs zs)).length = L) := by show _ = _; rw [sortd_length, mapd_length]; exact hzl
              have Rm : Row wr m6 3 ((mapd xs zs).map (Value.int .i64) ++ []) := by
                have := HR.out
                rw [List.take_of_length_le (by omega), Nat.sub_self] at this
                exact this
              clear hzl
              have hcl := cnt_le U i
              generalize hcu : cnt U i = cu at hcl ⊢
              have HCU : Hid (cnt U i = cu) := hcu
              clear hcu
              go_wp2_with (first
                | (at_make; refine L_make _ rfl _ _ 22 rfl 3 _ _ Yba.underlying22 info3 rfl _ _ _ _ L L rfl rfl rfl rfl (by omega) (by omega) (by omega) ?_; intro w7 wb hwb R7 S7; have Rm7 := Rm.spare S7 id)
                | (refine L_copy _ rfl _ _ 22 22 rfl 3 Yba.underlying22 size3 wb L L L (some ⟨m6, 0, none⟩) rfl rfl _ ((mapd xs zs).map (Value.int .i64)) 3 R7 (by simp) (len_map HML) (fun _ => src_at Rm7) (ints_one _) ?_; intro w8 R8 S8
                   have Rm8 := Rm7.spare S8 (fun e => by have e' : m6 = wb := e; have := hwb.out; have := Rm.lt; omega)
                   have h9 := sort_at sortC L (zs := mapd xs zs) (rest := []) (m := L) (by rw [List.append_nil]; exact R8) HML (by omega))
                | (go_at_call 9; refine h9.mono ?_; clear h9; rintro e w9 ⟨rfl, R9, S9⟩
                   have T9 : Spare Non wq w9 := by
                     have := hwb.out; have := HS.out.size
                     exact ((HS.out.off S7).new S8 (by omega)).new S9 (by omega)
                   have Rm9 := Rm8.spare S9 (fun e => by have e' : m6 = wb := e; have := hwb.out; have := Rm.lt; omega)
                   have HA9 : Hid (Aft w3 w9 N (w3.heap.size + 2) mvb mb smb w3.heap.size psb ksb osb xs (pl n sel) pb rb ob seen os) := HAq.out.spare T9
                   obtain ⟨rb', cp, rst, Q1, Q2⟩ := set_at HA9.out hi HZS HL0
                   have cpb : w9.cell? ⟨pb i, 0, none⟩ = some (.slice (some ⟨rb', 0, none⟩) L cp) := Q1.cell rfl
                   have cm2 : w9.cell? ⟨mb, 2, none⟩ = some (.map (some w3.heap.size)) := HA9.out.mvd.box.cell rfl
                   have h8 := equal_same cp L Q2 R9 HSL (by omega))
                | (go_at_call 8; refine h8.mono ?_; clear h8; rintro e w10 ⟨rfl, q10, rfl⟩
                   have h10 := sorted_row (w := w9.drewN q10) L Rm9 HML (by omega))
                | (at_lookup; refine L_look _ rfl _ _ rfl (HA9.out.spare (Spare.drewN Non w9 q10)) hi rfl rfl HZS HL0 (fun h0 => ?_) (fun ordb perm h0 O10 HPE HPO => ?_))
                | (go_at_call 10; refine h10.mono ?_; clear h10; rintro e w11 ⟨rfl, q11, rfl⟩; rw [h0])
                | (at_make; refine L_make _ rfl _ _ 44 rfl 4 _ _ Yba.underlying44 info4 rfl _ _ _ _ L L rfl rfl rfl rfl (by omega) (by omega) (by omega) ?_; intro w12 eb heb R12 S12))
              · have hUi : U i = false := by rw [HU.out]; show (!isS (mapd xs (pl n sel i))) = false; rw [HZS.out, h0]; rfl
                have hc : cnt U (i + 1) = cu := by rw [cnt_succ, hUi, HCU.out]; simp
                exact ⟨⟨i + 1, by omega, by go_num, by rw [hc], HA9.out.spare (Spare.drewN Non w9 _), (HTq.out.off T9).off (Spare.drewN Non w9 _)⟩, by simp [intOf]; omega⟩
              · have hUi : U i = true := by rw [HU.out]; show (!isS (mapd xs (pl n sel i))) = true; rw [HZS.out, h0]; rfl
                have HCN : Hid (cnt U (i + 1) = cu + 1) := by show _ = _; rw [cnt_succ, hUi, HCU.out]; simp
                have lm := Rm9.lt
                have lo := O10.lt
                have HTQ : Hid (Spare Non wq w12) := (T9.off (Spare.drewN Non w9 (q10 + q11))).off S12
                have HM12 : Hid (Row w12 m6 3 ((mapd xs zs).map (Value.int .i64) ++ [])) := Row.spare (w := w9.drewN (q10 + q11)) Rm9 S12 id
                have HO12 : Hid (Row w12 ordb 3 (perm.map fun i : Nat => Value.int .i64 (i : Int))) := Row.spare (w := w9.drewN (q10 + q11)) O10 S12 id
                have HP12 : Hid (Row w12 (pb i) 41 [.slice (some ⟨rb', 0, none⟩) L cp]) := Row.spare (w := w9.drewN (q10 + q11)) Q1 S12 id
                have HQ12 : Hid (Row w12 rb' 3 ((sortd (mapd xs zs)).map (Value.int .i64) ++ rst)) := Row.spare (w := w9.drewN (q10 + q11)) Q2 S12 id
                have HNE : Hid (m6 ≠ eb ∧ ordb ≠ eb ∧ pb i ≠ eb ∧ rb' ≠ eb ∧ w.heap.size ≤ eb ∧ wq.heap.size ≤ eb) := by
                  have he : eb = w9.heap.size := heb
                  have lo' : ordb < w9.heap.size := lo
                  have := Q1.lt
                  have := Q2.lt
                  have := T9.size
                  have := HTq.out.size
                  exact ⟨by omega, by omega, by omega, by omega, by omega, by omega⟩
                clear R7 S7 Rm7 R8 S8 Rm8 R9 S9 T9 Rm9 Q1 Q2 cpb cm2 O10 S12 heb lm lo Rm cos hUi h0
                go_loopw [156] (fun ix wr => ∃ j : Nat, j ≤ L ∧ ix = .int .i64 j ∧ Hid (Row wr eb 4 ((List.range L).map fun k => Value.bool (decide (k ∈ perm.take j)))) ∧ Hid (Spare (One eb) w12 wr)) (fun ix _ => L - (intOf ix).toNat)
                case atStart => exact ⟨0, Nat.zero_le _, by go_num, seen_zero R12, Spare.refl _ _⟩
                case round =>
                  obtain ⟨j, hj0, rfl, HR2, HS2⟩ := hrel
                  by_cases hj2 : j < L
                  · obtain ⟨n1, n2, n3, n4, n5, n6⟩ := HNE.out
                    have hml : (mapd xs zs).length = L := HML
                    have hpl : perm.length = L := by rw [HPE.out.length_eq]; simp
                    obtain ⟨f, hf⟩ : ∃ f, perm[j]? = some f := ⟨perm[j]'(by omega), List.getElem?_eq_getElem (by omega)⟩
                    have hfk : f < L := by simpa using HPE.out.mem_iff.1 (List.mem_of_getElem? hf)
                    have hnd : perm.Nodup := HPE.out.nodup_iff.2 List.nodup_range
                    have c1 : wr.cell? ⟨ordb, j, none⟩ = some (.int .i64 f) := spare_cell HS2.out (HO12.out.cell (by rw [List.getElem?_map, hf]; rfl)) n2
                    have c2 : wr.cell? ⟨eb, f, none⟩ = some (.bool false) := HR2.out.cell (seen_not hnd hf hfk)
                    have f2 := HR2.out.frozen f
                    have hy2 : (sortd (mapd xs zs))[j]? = some ((mapd xs zs).getD f 0) := by rw [← HPO.out, List.getElem?_map, hf]; rfl
                    have c3 : (wr.setCell ⟨eb, f, none⟩ (.bool true)).cell? ⟨pb i, 0, none⟩ = some (.slice (some ⟨rb', 0, none⟩) L cp) := spare_cell (HS2.out.on (Spare.setCell wr ⟨eb, f, none⟩ _) (fun _ => rfl)) (HP12.out.cell rfl) n3
                    have c4 : (wr.setCell ⟨eb, f, none⟩ (.bool true)).cell? ⟨rb', j, none⟩ = some (.int .i64 ((mapd xs zs).getD f 0)) := spare_cell (HS2.out.on (Spare.setCell wr ⟨eb, f, none⟩ _) (fun _ => rfl)) (HQ12.out.cell (by rw [List.getElem?_append_left (by rw [List.length_map, HSL.out]; exact hj2), List.getElem?_map, hy2]; rfl)) n4
                    have c5 : (wr.setCell ⟨eb, f, none⟩ (.bool true)).cell? ⟨m6, f, none⟩ = some (.int .i64 ((mapd xs zs).getD f 0)) := spare_cell (HS2.out.on (Spare.setCell wr ⟨eb, f, none⟩ _) (fun _ => rfl)) (HM12.out.cell (by rw [List.append_nil]; simp [show f < (mapd xs zs).length by omega])) n1
                    have HSE : Hid (Row (wr.setCell ⟨eb, f, none⟩ (.bool true)) eb 4 ((List.range L).map fun k => Value.bool (decide (k ∈ perm.take (j + 1))))) := seen_set HR2.out hf
                    have HSP : Hid (Spare (One eb) w12 (wr.setCell ⟨eb, f, none⟩ (.bool true))) := HS2.out.on (Spare.setCell wr ⟨eb, f, none⟩ _) (fun _ => rfl)
                    generalize (mapd xs zs).getD f 0 = y at c4 c5
                    have i0 : (0 : Int) ≤ (f : Int) := by omega
                    have i1 : (f : Int) < (L : Int) := by omega
                    have i4 : (0 : Int) ≤ (j : Int) := by omega
                    have i5 : (j : Int) < (L : Int) := by omega
                    clear hy2 hnd hf hpl hml n1 n2 n3 n4 n5 n6
                    have HC3 : Hid ((wr.setCell ⟨eb, f, none⟩ (.bool true)).cell? ⟨pb i, 0, none⟩ = some (.slice (some ⟨rb', 0, none⟩) L cp)) := c3
                    have HC4 : Hid ((wr.setCell ⟨eb, f, none⟩ (.bool true)).cell? ⟨rb', j, none⟩ = some (.int .i64 y)) := c4
                    have HC5 : Hid ((wr.setCell ⟨eb, f, none⟩ (.bool true)).cell? ⟨m6, f, none⟩ = some (.int .i64 y)) := c5
                    clear c3 c4 c5
                    go_wp2
                    generalize wr.setCell ⟨eb, f, none⟩ (.bool true) = wz at HC3 HC4 HC5 HSE HSP ⊢
                    have c3 := HC3.out
                    have c4 := HC4.out
                    have c5 := HC5.out
                    go_quiet (fail)
                    go_wp2
                    go_roundw
                    case rel => exact ⟨j + 1, by omega, by go_num, HSE.out, HSP.out.redrew rfl rfl rfl rfl⟩
                    case measure => simp [intOf]; omega
                  · have T : Spare Non wq wr := HTQ.out.new HS2.out HNE.out.2.2.2.2.2
                    have HAr : Hid (Aft w3 wr N (w3.heap.size + 2) mvb mb smb w3.heap.size psb ksb osb xs (pl n sel) pb rb ob seen os) := HAq.out.spare T
                    have HTr : Hid (Spare Non w wr) := HTq.out.off T
                    obtain rfl : L = j := by omega
                    clear T
                    go_wp2
                    go_roundw
                    case rel => exact ⟨i + 1, by omega, by go_num, by rw [HCN.out]; go_num, HAr, HTr⟩
                    case measure => simp [intOf]; omega
        · obtain rfl : N = i := by omega
          have hc : os.length = cnt U N := by rw [HA.out.count, HU.out]; rfl
          have hcl := cnt_le U N
          generalize cnt U N = cu at hc hcl ⊢
          go_wp2_with (first
            | (refine L_len_map _ rfl _ 35 rfl 34 22 Yba.underlying35 w3.heap.size rfl _ _ HA.out.mvd.ordm ?_; rw [oEnts_length, hc]))
          go_ret
          exact ⟨by simp, HT.out.below (fun _ _ e => e)⟩
end Go.Proofs.Ybulkcwdy
