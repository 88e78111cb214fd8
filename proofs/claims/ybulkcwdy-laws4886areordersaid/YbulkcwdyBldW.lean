/-
  zzs4886abuild: the walk.
-/
import Derived.Test.YbulkcwdyBld
import Derived.Maps.Own
import Derived.Laws.BytesString
namespace Go.Proofs.Ybulkcwdy
open Go.RowKit Go.ChangeMaps

/-- The sets as they lie. -/
structure Came (W : World) (ao : Option Addr) (sb so N : Nat) (sel : Nat → List Int) (sA : Nat → Option Addr) (sC : Nat → Nat) : Prop where
  top : 0 < N → ao = some ⟨sb, so, none⟩
  cell : ∀ i, i < N → W.cell? ⟨sb, so + i, none⟩ = some (.slice (sA i) (sel i).length (sC i))
  len : ∀ i, i < N → (sel i).length ≤ 1024
  each : ∀ i, i < N → 0 < (sel i).length → ∃ b o, sA i = some ⟨b, o, none⟩ ∧ ∀ j x, (sel i)[j]? = some x → W.cell? ⟨b, o + j, none⟩ = some (.int .u16 x)
  val : ∀ i, i < N → ∀ x ∈ sel i, 0 ≤ x ∧ x ≤ 65535

def pre (n : Nat) (xs : List Int) : List Int := if 0 < n then xs.map fun x => x % (n : Int) else []
def pl (n : Nat) (sel : Nat → List Int) (i : Nat) : List Int := Lib.compact (sortd (pre n (sel i)))

theorem spare_cell {S : Nat → Prop} {W w : World} (h : Spare S W w) {b o : Nat} {v : Value} (hc : W.cell? ⟨b, o, none⟩ = some v) (hS : ¬ S b) : w.cell? ⟨b, o, none⟩ = some v :=
  (World.cell?_of_block (w := W) (h.block b (World.block_lt_of_cell? W _ hc) hS)).trans hc

theorem Spare.new {S : Nat → Prop} {a b c : World} {g : Nat} (h1 : Spare S a b) (h2 : Spare (One g) b c) (hg : a.heap.size ≤ g) : Spare S a c := h1.on h2 (fun h => absurd h (by omega))
theorem sort_at (hS : SortC) {w : World} {b m : Nat} (cap : Nat) {zs : List Int} {rest : List Value} (R : Row w b 3 (zs.map (Value.int .i64) ++ rest)) (hm : Hid (zs.length = m)) (h : m ≤ 1048576) :
    Calls Yba.prog 9 #[.slice (some ⟨b, 0, none⟩) m cap] w fun e w' => e = .returned (.tuple #[]) ∧ Row w' b 3 ((sortd zs).map (Value.int .i64) ++ rest) ∧ Spare (One b) w w' := by
  have hm' : zs.length = m := hm
  subst hm'
  exact hS b cap zs rest w R h
theorem sortd_length (zs : List Int) : (sortd zs).length = zs.length := by simp [sortd]
theorem compact_at (hC : CompactC) {w : World} {b m cap : Nat} {zs ys : List Int} {rest : List Value} (R : Row w b 3 ((sortd zs).map (Value.int .i64) ++ rest)) (hm : Hid (zs.length = m)) (h : m ≤ 1048576) (hcap : m ≤ cap) (hys : Hid (Lib.compact (sortd zs) = ys)) {q : Nat} (hq : Hid (ys.length = q)) :
    Calls Yba.prog 13 #[.slice (some ⟨b, 0, none⟩) m cap] w fun e w' => e = .returned (.slice (some ⟨b, 0, none⟩) q cap) ∧ (∃ rest', Row w' b 3 (ys.map (Value.int .i64) ++ rest')) ∧ Spare (One b) w w' := by
  have hm' : zs.length = m := hm
  have hq' : ys.length = q := hq
  have hys' : Lib.compact (sortd zs) = ys := hys
  subst hm' hq' hys'
  have := hC b cap (sortd zs) rest w R (by rw [sortd_length]; exact h) (by rw [sortd_length]; exact hcap)
  rw [sortd_length] at this
  exact this
theorem src_at {w : World} {b : Nat} {e : TypeId} {ys : List Value} {rest : List Value} (R : Row w b e (ys ++ rest)) : ∃ ad, some (⟨b, 0, none⟩ : Addr) = some ad ∧ ∀ j v, ys[j]? = some v → w.cell? (ad.add j) = some v :=
  ⟨_, rfl, fun j v hj => by
    rw [Addr.add_mid, Nat.zero_add]
    exact R.cell (by rw [List.getElem?_append_left (List.getElem?_eq_some_iff.1 hj).1]; exact hj)⟩
theorem ints_one (ys : List Int) : ∀ v ∈ ys.map (Value.int .i64), v.oneCell' = true := by
  intro v hv
  obtain ⟨x, _, rfl⟩ := List.mem_map.1 hv
  rfl
theorem len_map {ys : List Int} {q : Nat} (hq : Hid (ys.length = q)) : (ys.map (Value.int .i64)).length = q := by rw [List.length_map]; exact hq

theorem compact_len (zs : List Int) : (Lib.compact zs).length ≤ zs.length := by
  unfold Lib.compact Lib.compactUpTo
  rw [List.length_map]
  exact Nat.le_trans (List.length_filter_le _ _) (by simp)
theorem push_ready {wr w9 w10 w11 : World} {B i N : Nat} {pl : Nat → List Int} {mb smb psb ksb osb : Nat} {pb rb ob : Nat → Nat} (h : Built wr B i N pl mb smb psb ksb osb pb rb ob) (T9 : Spare Non wr w9) {o1 o2 : Obj} (e : w10 = (w9.alloc o1).alloc o2) (S11 : Spare (One smb) w10 w11) :
    Row w11 psb 34 ((List.range i).map (fun j => .pointer (some ⟨pb j, 0, none⟩)) ++ List.replicate (N - i) (.pointer none)) ∧ Row w11 ksb 9 ((List.range i).map kv ++ List.replicate (N - i) (.string ⟨#[]⟩)) ∧
    Row w11 osb 22 ((List.range i).map (fun j => .slice (some ⟨ob j, 0, none⟩) (pl j).length (pl j).length) ++ List.replicate (N - i) (.slice none 0 0)) ∧ psb ≠ ksb ∧ psb ≠ osb ∧ ksb ≠ osb := by
  subst e
  have h9 := (h.spare T9).spare ((Spare.alloc Non w9 o1).off (Spare.alloc Non _ o2))
  have := h.o1
  exact ⟨h9.ps.spare S11 (fun e => by have e' : psb = smb := e; omega), h9.ks.spare S11 (fun e => by have e' : ksb = smb := e; omega), h9.os.spare S11 (fun e => by have e' : osb = smb := e; omega), by omega, by omega, by omega⟩
theorem kb_size (i : Nat) : (kb i).size = 2 := rfl
theorem kv_inj {i j : Nat} (hi : i < 256) (hj : j < 256) (h : kv i = kv j) : i = j := by
  unfold kv kb at h
  simp at h
  have := congrArg UInt8.toNat h
  simp at this
  omega
theorem key_of (i : Nat) : keyOf Yba.prog 9 (kv i) = some (.string (kb i).data.toList) := WideMaps.keyOf_string_mk Yba.underlying9 (by rw [kb_size]; decide)
theorem keyed9 : Maps.Keyed Yba.prog 9 := Maps.string_keyed Yba.underlying9
theorem ents_mem {kf vf : Nat → Value} {n : Nat} {e : MapEntry} (h : e ∈ ents kf vf n) : ∃ j, j < n ∧ e = { key := kf j, val := vf j, born := j } := by
  simp only [ents, List.mem_map, List.mem_range] at h
  obtain ⟨j, hj, rfl⟩ := h
  exact ⟨j, hj, rfl⟩
theorem key_new (w : World) (vf : Nat → Value) (i : Nat) (hi : i < 256) : (Instr.findKey 9 (kv i) (ents kv vf i)).run Yba.prog w = .ok none w := by
  rcases keyed9.find w (key_of i) (ents kv vf i) (fun e he => by obtain ⟨j, _, rfl⟩ := ents_mem he; exact ⟨_, key_of j⟩) with ⟨h, _⟩ | ⟨j, e, _, h2, h3⟩
  · exact h
  · obtain ⟨j', hj', rfl⟩ := ents_mem (List.mem_of_getElem? h2)
    have := kv_inj (by omega) (by omega) h3
    omega
theorem key_found (w : World) (vf : Nat → Value) (i N : Nat) (hN : N ≤ 256) (hi : i < N) : ∃ j, (Instr.findKey 9 (kv i) (ents kv vf N)).run Yba.prog w = .ok (some (j, vf i)) w := by
  rcases keyed9.find w (key_of i) (ents kv vf N) (fun e he => by obtain ⟨j, _, rfl⟩ := ents_mem he; exact ⟨_, key_of j⟩) with ⟨_, h⟩ | ⟨j, e, h1, h2, h3⟩
  · exact absurd rfl (h { key := kv i, val := vf i, born := i } (by simp only [ents, List.mem_map, List.mem_range]; exact ⟨i, hi, rfl⟩))
  · obtain ⟨j', hj', rfl⟩ := ents_mem (List.mem_of_getElem? h2)
    obtain rfl := kv_inj (by omega) (by omega) h3
    exact ⟨j, h1⟩
theorem key_check (w : World) (i : Nat) (f : Bool) : (Instr.checkKey f 10000 9 (kv i)).run Yba.prog w = .ok () w := keyed9.check w f (key_of i)
theorem conv_key (w : World) (b i : Nat) (hi : i < 256) (h0 : w.cell? ⟨b, 0, none⟩ = some (.int .u8 i)) (h1 : w.cell? ⟨b, 1, none⟩ = some (.int .u8 ((i : Int) / 256))) : (convert 36 9 (.slice (some ⟨b, 0, none⟩) 2 2)).run Yba.prog w = .ok (kv i) w := by
  rw [run_convert_bytes_string w 36 9 5 _ _ _ Yba.underlying36 Yba.underlying5 Yba.underlying9]
  have := run_bytesToString (P := Yba.prog) w ⟨b, 0, none⟩ 2 2 [(i : Int), (i : Int) / 256] (run_loadCells_list (P := Yba.prog) w ⟨b, 0, none⟩ [.int .u8 (i : Int), .int .u8 ((i : Int) / 256)] (fun j v hj => by
    rw [Addr.add_mid, Nat.zero_add]
    match j, hj with
    | 0, hj => simp at hj; subst hj; exact h0
    | 1, hj => simp at hj; subst hj; exact h1))
  rw [this]
  have e : ((i : Int) / 256).toNat = 0 := by omega
  simp [kv, kb, e]
  rfl

theorem results_tmp4 {fn : Func} {t u v x : Tmp} (h : fn.results = #[.tmp t, .tmp u, .tmp v, .tmp x]) (tmps : Array Value) (P : Program) (w : World) :
    (results fn tmps).run P w = .ok (.tuple #[tmps.getD t undef, tmps.getD u undef, tmps.getD v undef, tmps.getD x undef]) w := by
  simp [results, h]

set_option maxRecDepth 100000 in
set_option maxHeartbeats 8000000 in
theorem build_any (hS : SortC) (hC : CompactC) (n : Nat) (hn : n ≤ 1024) (ao : Option Addr) (sb so N cap : Nat) (sel : Nat → List Int) (sA : Nat → Option Addr) (sC : Nat → Nat) (w : World) (hA : Hid (Came w ao sb so N sel sA sC)) (hN : N ≤ 256) :
    Calls Yba.prog 6 #[.int .i64 n, .slice ao N cap] w fun e w' => ∃ mb smb psb ksb osb, e = .returned (.tuple #[.pointer (some ⟨mb, 0, none⟩), .slice (some ⟨psb, 0, none⟩) N N, .slice (some ⟨ksb, 0, none⟩) N N, .slice (some ⟨osb, 0, none⟩) N N]) ∧ (∃ pb rb ob, Built w' w.heap.size N N (pl n sel) mb smb psb ksb osb pb rb ob) ∧ Spare Non w w' := by
  have hmm : ∀ w, (Instr.makeMap 33 none).run Yba.prog w = .ok (.map (some w.heap.size)) (w.alloc (.map #[] 0)) := fun w => run_makeMap 33 w
  go_enter Yba.func6, Yba.ntmps6
  go_wp2_with (first | (at_make; refine L_make _ rfl _ _ 26 rfl 34 _ _ Yba.underlying26 info34 rfl _ _ _ _ 0 N rfl rfl rfl rfl (by omega) (by omega) (by omega) ?_; intro w1 psb hpsb Rps S1) | (at_make; refine L_make _ rfl _ _ 27 rfl 9 _ _ Yba.underlying27 info9 rfl _ _ _ _ 0 N rfl rfl rfl rfl (by omega) (by omega) (by omega) ?_; intro w2 ksb hksb Rks S2) | (at_make; refine L_make _ rfl _ _ 28 rfl 22 _ _ Yba.underlying28 info22 rfl _ _ _ _ 0 N rfl rfl rfl rfl (by omega) (by omega) (by omega) ?_; intro w3 osb hosb Ros S3))
  obtain ⟨HB0, HS0⟩ := built0 (pl n sel) hpsb.out hksb.out hosb.out Rps S1 Rks S2 Ros S3
  have hmb := HB0.box.lt
  clear hpsb hksb hosb Rps S1 Rks S2 Ros S3
  generalize hmbE : w.heap.size + 1 = mb at HB0 hmb ⊢
  have HMB : Hid (w.heap.size + 1 = mb) := hmbE
  have HB1 : Hid (Built w3 w.heap.size 0 N (pl n sel) mb w.heap.size psb ksb osb (fun _ => 0) (fun _ => 0) (fun _ => 0)) := HB0
  have HS1 : Hid (Spare Non w w3) := HS0
  clear hmbE HB0 HS0
  go_loopw [9, 10, 11, 34] (fun v9 v10 v11 ix wr => ∃ (i : Nat) (pb rb ob : Nat → Nat), i ≤ N ∧ ix = .int .i64 i ∧ v9 = .slice (some ⟨psb, 0, none⟩) i N ∧ v10 = .slice (some ⟨ksb, 0, none⟩) i N ∧ v11 = .slice (some ⟨osb, 0, none⟩) i N ∧ Hid (Built wr w.heap.size i N (pl n sel) mb w.heap.size psb ksb osb pb rb ob) ∧ Hid (Spare Non w wr)) (fun _ _ _ ix _ => N - (intOf ix).toNat)
  case atStart => exact ⟨0, _, _, _, Nat.zero_le _, by go_num, rfl, rfl, rfl, HB1, HS1⟩
  case round =>
    revert wr
    intro wo hrel
    obtain ⟨i, pb, rb, ob, hi0, rfl, rfl, rfl, rfl, HB, HS⟩ := hrel
    by_cases hi : i < N
    · obtain rfl := hA.out.top (by omega)
      have cA : wo.cell? ⟨sb, so + i, none⟩ = some (.slice (sA i) (sel i).length (sC i)) := spare_cell HS.out (hA.out.cell i hi) id
      have hl := hA.out.len i hi
      generalize hxs : sel i = xs at cA hl
      have HXS : Hid (sel i = xs) := hxs
      clear hxs
      generalize hsa : sA i = sa at cA
      have HSA : Hid (sA i = sa) := hsa
      clear hsa
      generalize hln : xs.length = ln at cA hl
      have HLN : Hid (xs.length = ln) := hln
      clear hln
      go_wp2_with (first | (at_make; refine L_make _ rfl _ _ 22 rfl 3 _ _ Yba.underlying22 info3 rfl _ _ _ _ 0 ln rfl rfl rfl rfl (by omega) (by omega) (by omega) ?_; intro w4 b1 hb1 R1 S4))
      --TAILS
      · rename_i hn0
        go_loopw [14, 46] (fun v14 ix wk => ∃ k : Nat, k ≤ ln ∧ ix = .int .i64 k ∧ v14 = .slice (some ⟨b1, 0, none⟩) k ln ∧ Hid (Row wk b1 3 (((xs.take k).map fun x => x % (n : Int)).map (Value.int .i64) ++ List.replicate (ln - k) (.int .i64 0))) ∧ Hid (Spare Non wo wk)) (fun _ ix _ => ln - (intOf ix).toNat)
        case atStart => exact ⟨0, Nat.zero_le _, by go_num, rfl, R1, S4⟩
        case round =>
          obtain ⟨k, hk0, rfl, rfl, HR, HK⟩ := hrel
          by_cases hk : k < ln
          · have hsel := hA.out.each i hi (by have h1 : sel i = xs := HXS; have h2 : xs.length = ln := HLN; rw [h1, h2]; omega)
            have h1 : sel i = xs := HXS
            have h2 : xs.length = ln := HLN
            obtain ⟨bx, ox, hsa, hcx⟩ := hsel
            have h3 : sA i = sa := HSA
            rw [h3] at hsa
            rw [h1] at hcx
            obtain ⟨x, hx⟩ : ∃ x, xs[k]? = some x := ⟨xs[k]'(by omega), List.getElem?_eq_getElem (by omega)⟩
            have cx : wr.cell? ⟨bx, ox + k, none⟩ = some (.int .u16 x) := spare_cell (HS.out.off HK.out) (hcx k x hx) id
            have hxr : 0 ≤ x ∧ x ≤ 65535 := hA.out.val i hi x (by rw [h1]; exact List.mem_of_getElem? hx)
            obtain ⟨hx0, hx1⟩ := hxr
            have htk : (((xs.take k).map fun x => x % (n : Int)).map (Value.int .i64)).length = k := by simp; omega
            have hsucc : ((xs.take (k + 1)).map fun x => x % (n : Int)).map (Value.int .i64) = ((xs.take k).map fun x => x % (n : Int)).map (Value.int .i64) ++ [.int .i64 (x % (n : Int))] := by
              rw [List.take_add_one, hx]; simp
            have HTK : Hid ((((xs.take k).map fun x => x % (n : Int)).map (Value.int .i64)).length = k) := htk
            have HSU : Hid (((xs.take (k + 1)).map fun x => x % (n : Int)).map (Value.int .i64) = ((xs.take k).map fun x => x % (n : Int)).map (Value.int .i64) ++ [.int .i64 (x % (n : Int))]) := hsucc
            have hn1 : (n : Int) ≠ 0 := by omega
            have hn2 : ¬ (n : Int) = 0 := by omega
            have hxw : IntKind.i64.wrap x = x := by rw [IntKind.wrap_i64]; omega
            subst hsa
            clear htk hsucc h1 h2 h3 hx hcx
            go_wp2_with (first
              | (refine L_push _ rfl _ 22 rfl rfl _ _ rfl 3 _ _ Yba.underlying22 info3 rfl (.int .i64 (x % (n : Int))) rfl rfl rfl b1 k ln rfl rfl _ HR.out hk (by rw [List.length_append, HTK.out]; simp; omega) ?_; intro w5 R5 S5))
            go_roundw
            case rel =>
              refine ⟨k + 1, by omega, by go_num, rfl, ?_, HK.out.new S5 (by have := hb1.out; omega)⟩
              show Row _ _ _ _
              rw [set_rep _ k ln _ _ HTK.out hk] at R5
              rw [HSU.out]
              exact R5
            case measure => simp [intOf]; omega
          · obtain rfl : k = ln := by omega
            have h2 : xs.length = k := HLN
            have HPRE : Hid (pre n xs = xs.map fun x => x % (n : Int)) := by
              show pre n xs = _
              unfold pre
              rw [if_pos hn0]
            have HM : Hid ((xs.map fun x => x % (n : Int)).length = k) := by
              show _ = _
              rw [List.length_map]; exact h2
            have S5 := HK.out
            have R5 : Row wr b1 3 ((xs.map fun x => x % (n : Int)).map (Value.int .i64) ++ List.replicate 0 (Value.int .i64 0)) := by
              have := HR.out
              rw [List.take_of_length_le (by omega), Nat.sub_self] at this
              exact this
            clear h2
            obtain ⟨ys, hys⟩ : ∃ ys, Lib.compact (sortd (xs.map fun x => x % (n : Int))) = ys := ⟨_, rfl⟩
            have HYS : Hid (Lib.compact (sortd (xs.map fun x => x % (n : Int))) = ys) := hys
            have HPL : Hid (pl n sel i = ys) := by
              have hx : sel i = xs := HXS
              show Lib.compact (sortd (pre n (sel i))) = ys
              rw [hx, HPRE.out, hys]
            obtain ⟨q, hq⟩ : ∃ q, ys.length = q := ⟨_, rfl⟩
            have HQ : Hid (ys.length = q) := hq
            have hql : q ≤ 1024 := by
              have h1 := compact_len (sortd (xs.map fun x => x % (n : Int)))
              rw [hys, hq, sortd_length, HM.out] at h1
              omega
            clear hq hys
            have cm : wo.cell? ⟨mb, 0, none⟩ = some (.map (some w.heap.size)) := HB.out.box.cell rfl
            have lm : mb < wo.heap.size := HB.out.box.lt
            have hi2 : i < 256 := by omega
            have h9 := sort_at hS k (m := k) R5 HM (by omega)
            go_wp2_with (first
              | (go_at_call 9; refine h9.mono ?_; clear h9; rintro e w6 ⟨rfl, R6, S6⟩; have h13 := compact_at hC (cap := k) (m := k) R6 HM (by omega) (by omega) HYS HQ)
              | (go_at_call 13; refine h13.mono ?_; clear h13; rintro e w7 ⟨rfl, ⟨rest7, R7⟩, S7⟩)
              | (at_make; refine L_make _ rfl _ _ 22 rfl 3 _ _ Yba.underlying22 info3 rfl _ _ _ _ q q rfl rfl rfl rfl (by omega) (by omega) (by omega) ?_; intro w8 b2 hb2 R8 S8; have R18 := R7.spare S8 id)
              | (refine L_copy _ rfl _ _ 22 22 rfl 3 Yba.underlying22 size3 b2 q q k (some ⟨b1, 0, none⟩) rfl rfl _ (ys.map (Value.int .i64)) 3 R8 (by simp) (len_map HQ) (fun _ => src_at R18) (ints_one ys) ?_; intro w9 R9 S9
                 have T9 : Spare Non wo w9 := by
                   have := hb1.out; have := hb2.out; have := S8.size; have := S7.size; have := S6.size; have := S5.size
                   exact ((((S5.new S6 (by omega)).new S7 (by omega)).off S8).new S9 (by omega))
                 have R19 : Row w9 b1 3 (ys.map (Value.int .i64) ++ rest7) := R18.spare S9 (fun e => by have e' : b1 = b2 := e; have := hb2.out; have := R7.lt; omega)
                 have cm9 : w9.cell? ⟨mb, 0, none⟩ = some (.map (some w.heap.size)) := spare_cell T9 cm id
                 have lm9 : mb < w9.heap.size := Nat.lt_of_lt_of_le lm T9.size
                 have hcv := conv_key ((w9.alloc (.cells #[.slice (some ⟨b1, 0, none⟩) q k] 41)).alloc (.cells #[.int .u8 i, .int .u8 ((i : Int) / 256)] 5)) (w9.heap.size + 1) i hi2 (World.cell?_alloc_at _ _ _ _ (by simp)) (World.cell?_alloc_at _ _ _ _ (by simp)))
              | (at_mapUpdate; refine L_update _ rfl _ _ _ 33 rfl 9 34 Yba.underlying33 w.heap.size rfl _ i ((HB.out.map.spare T9 id).spare ((Spare.alloc Non w9 _).off (Spare.alloc Non _ _)) id) (kv i) _ rfl rfl (key_check _ i false) (key_new _ _ i hi2) ?_; intro w11 M11 S11; have Q11 := push_ready HB.out T9 rfl S11)
              | (refine L_push _ rfl _ 26 rfl rfl _ _ rfl 34 _ _ Yba.underlying26 info34 rfl (.pointer (some ⟨w9.heap.size, 0, none⟩)) rfl rfl rfl psb i N rfl rfl _ Q11.1 hi (by simp; omega) ?_; intro w12 R12 S12)
              | (refine L_push _ rfl _ 27 rfl rfl _ _ rfl 9 _ _ Yba.underlying27 info9 rfl (kv i) rfl rfl rfl ksb i N rfl rfl _ (Q11.2.1.spare S12 (fun e => Q11.2.2.2.1 e.symm)) hi (by simp; omega) ?_; intro w13 R13 S13)
              | (refine L_push _ rfl _ 28 rfl rfl _ _ rfl 22 _ _ Yba.underlying28 info22 rfl (.slice (some ⟨b2, 0, none⟩) q q) rfl rfl rfl osb i N rfl rfl _ ((Q11.2.2.1.spare S12 (fun e => Q11.2.2.2.2.1 e.symm)).spare S13 (fun e => Q11.2.2.2.2.2 e.symm)) hi (by simp; omega) ?_; intro w14 R14 S14))
            go_roundw
            case rel =>
              have l1 := hb1.out
              have l2 := hb2.out
              have l7 := R7.lt
              have l9 := R9.lt
              have A : Spare Non w9 ((w9.alloc (.cells #[.slice (some ⟨b1, 0, none⟩) q k] 41)).alloc (.cells #[.int .u8 i, .int .u8 ((i : Int) / 256)] 5)) := (Spare.alloc Non w9 _).off (Spare.alloc Non _ _)
              have R3 : Row ((w9.alloc (.cells #[.slice (some ⟨b1, 0, none⟩) q k] 41)).alloc (.cells #[.int .u8 i, .int .u8 ((i : Int) / 256)] 5)) w9.heap.size 41 [.slice (some ⟨b1, 0, none⟩) q k] := (Row.alloc w9 41 [.slice (some ⟨b1, 0, none⟩) q k]).spare (Spare.alloc Non _ _) id
              have hq : ys.length = q := HQ
              subst hq
              have hp : pl n sel i = ys := HPL
              subst hp
              have G := built_round (rest := rest7) (cap := k) HB.out hi (T9.off A) ⟨by omega, by omega, l9⟩ (R19.spare A id) (R9.spare A id) R3 M11 S11 R12 S12 R13 S13 R14 S14
              exact ⟨i + 1, _, _, _, by omega, by go_num, rfl, rfl, rfl, G.1, G.2 w (Nat.le_refl _) HS.out⟩
            case measure => simp [intOf]; omega
      · have HPRE : Hid (pre n xs = []) := by
          show pre n xs = []
          unfold pre
          rw [if_neg (by assumption)]
        have HM : Hid (([] : List Int).length = 0) := rfl
        have S5 := S4
        have R5 : Row w4 b1 3 (([] : List Int).map (Value.int .i64) ++ List.replicate ln (Value.int .i64 0)) := R1
        obtain ⟨ys, hys⟩ : ∃ ys, Lib.compact (sortd []) = ys := ⟨_, rfl⟩
        have HYS : Hid (Lib.compact (sortd []) = ys) := hys
        have HPL : Hid (pl n sel i = ys) := by
          have hx : sel i = xs := HXS
          show Lib.compact (sortd (pre n (sel i))) = ys
          rw [hx, HPRE.out, hys]
        obtain ⟨q, hq⟩ : ∃ q, ys.length = q := ⟨_, rfl⟩
        have HQ : Hid (ys.length = q) := hq
        have hql : q ≤ 1024 := by
          have h1 := compact_len (sortd [])
          rw [hys, hq, sortd_length, HM.out] at h1
          omega
        clear hq hys
        have cm : wo.cell? ⟨mb, 0, none⟩ = some (.map (some w.heap.size)) := HB.out.box.cell rfl
        have lm : mb < wo.heap.size := HB.out.box.lt
        have hi2 : i < 256 := by omega
        have h9 := sort_at hS ln (m := 0) R5 HM (by omega)
        go_wp2_with (first
          | (go_at_call 9; refine h9.mono ?_; clear h9; rintro e w6 ⟨rfl, R6, S6⟩; have h13 := compact_at hC (cap := ln) (m := 0) R6 HM (by omega) (by omega) HYS HQ)
          | (go_at_call 13; refine h13.mono ?_; clear h13; rintro e w7 ⟨rfl, ⟨rest7, R7⟩, S7⟩)
          | (at_make; refine L_make _ rfl _ _ 22 rfl 3 _ _ Yba.underlying22 info3 rfl _ _ _ _ q q rfl rfl rfl rfl (by omega) (by omega) (by omega) ?_; intro w8 b2 hb2 R8 S8; have R18 := R7.spare S8 id)
          | (refine L_copy _ rfl _ _ 22 22 rfl 3 Yba.underlying22 size3 b2 q q ln (some ⟨b1, 0, none⟩) rfl rfl _ (ys.map (Value.int .i64)) 3 R8 (by simp) (len_map HQ) (fun _ => src_at R18) (ints_one ys) ?_; intro w9 R9 S9
             have T9 : Spare Non wo w9 := by
               have := hb1.out; have := hb2.out; have := S8.size; have := S7.size; have := S6.size; have := S5.size
               exact ((((S5.new S6 (by omega)).new S7 (by omega)).off S8).new S9 (by omega))
             have R19 : Row w9 b1 3 (ys.map (Value.int .i64) ++ rest7) := R18.spare S9 (fun e => by have e' : b1 = b2 := e; have := hb2.out; have := R7.lt; omega)
             have cm9 : w9.cell? ⟨mb, 0, none⟩ = some (.map (some w.heap.size)) := spare_cell T9 cm id
             have lm9 : mb < w9.heap.size := Nat.lt_of_lt_of_le lm T9.size
             have hcv := conv_key ((w9.alloc (.cells #[.slice (some ⟨b1, 0, none⟩) q ln] 41)).alloc (.cells #[.int .u8 i, .int .u8 ((i : Int) / 256)] 5)) (w9.heap.size + 1) i hi2 (World.cell?_alloc_at _ _ _ _ (by simp)) (World.cell?_alloc_at _ _ _ _ (by simp)))
          | (at_mapUpdate; refine L_update _ rfl _ _ _ 33 rfl 9 34 Yba.underlying33 w.heap.size rfl _ i ((HB.out.map.spare T9 id).spare ((Spare.alloc Non w9 _).off (Spare.alloc Non _ _)) id) (kv i) _ rfl rfl (key_check _ i false) (key_new _ _ i hi2) ?_; intro w11 M11 S11; have Q11 := push_ready HB.out T9 rfl S11)
          | (refine L_push _ rfl _ 26 rfl rfl _ _ rfl 34 _ _ Yba.underlying26 info34 rfl (.pointer (some ⟨w9.heap.size, 0, none⟩)) rfl rfl rfl psb i N rfl rfl _ Q11.1 hi (by simp; omega) ?_; intro w12 R12 S12)
          | (refine L_push _ rfl _ 27 rfl rfl _ _ rfl 9 _ _ Yba.underlying27 info9 rfl (kv i) rfl rfl rfl ksb i N rfl rfl _ (Q11.2.1.spare S12 (fun e => Q11.2.2.2.1 e.symm)) hi (by simp; omega) ?_; intro w13 R13 S13)
          | (refine L_push _ rfl _ 28 rfl rfl _ _ rfl 22 _ _ Yba.underlying28 info22 rfl (.slice (some ⟨b2, 0, none⟩) q q) rfl rfl rfl osb i N rfl rfl _ ((Q11.2.2.1.spare S12 (fun e => Q11.2.2.2.2.1 e.symm)).spare S13 (fun e => Q11.2.2.2.2.2 e.symm)) hi (by simp; omega) ?_; intro w14 R14 S14))
        go_roundw
        case rel =>
          have l1 := hb1.out
          have l2 := hb2.out
          have l7 := R7.lt
          have l9 := R9.lt
          have A : Spare Non w9 ((w9.alloc (.cells #[.slice (some ⟨b1, 0, none⟩) q ln] 41)).alloc (.cells #[.int .u8 i, .int .u8 ((i : Int) / 256)] 5)) := (Spare.alloc Non w9 _).off (Spare.alloc Non _ _)
          have R3 : Row ((w9.alloc (.cells #[.slice (some ⟨b1, 0, none⟩) q ln] 41)).alloc (.cells #[.int .u8 i, .int .u8 ((i : Int) / 256)] 5)) w9.heap.size 41 [.slice (some ⟨b1, 0, none⟩) q ln] := (Row.alloc w9 41 [.slice (some ⟨b1, 0, none⟩) q ln]).spare (Spare.alloc Non _ _) id
          have hq : ys.length = q := HQ
          subst hq
          have hp : pl n sel i = ys := HPL
          subst hp
          have G := built_round (rest := rest7) (cap := ln) HB.out hi (T9.off A) ⟨by omega, by omega, l9⟩ (R19.spare A id) (R9.spare A id) R3 M11 S11 R12 S12 R13 S13 R14 S14
          exact ⟨i + 1, _, _, _, by omega, by go_num, rfl, rfl, rfl, G.1, G.2 w (Nat.le_refl _) HS.out⟩
        case measure => simp [intOf]; omega
    · obtain rfl : N = i := by omega
      go_wp2
      (try simp only [Exit.inBlock, Exit.then]); refine bodyPost_ret (results_tmp4 rfl _ _ _) rfl ?_
      exact ⟨_, _, _, _, _, rfl, ⟨_, _, _, HB⟩, HS⟩
end Go.Proofs.Ybulkcwdy
