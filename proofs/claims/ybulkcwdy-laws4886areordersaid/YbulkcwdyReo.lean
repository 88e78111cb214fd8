/-
  (*clockMaker).reorder.
-/
import Derived.Test.YbulkcwdyAMove
import Derived.Deep.AppendLies
namespace Go.Proofs.Ybulkcwdy
open Go.RowKit Go.ChangeMaps

theorem info47 : (Yba.prog.info? 47).map (fun i => (i.zero, i.size, i.bytes)) = some (some (.int .u64 0), 1, 8) := by kernel_rfl
theorem size47 : (Yba.prog.info? 47).map (·.size) = some 1 := by kernel_rfl

theorem nil_eql (w : World) : (binOp .eql 22 (.slice none 0 0) (.slice none 0 0)).run Yba.prog w = .ok (.bool true) w := by
  have h : ∀ d : Nat, (Op.equalIn (d + 1) 22 (.slice none 0 0) (.slice none 0 0)).run Yba.prog w = .ok true w := fun d => by
    simp [Op.equalIn, run_underlying Yba.underlying22]
  simp only [binOp]
  simp [Op.equal, Op.maxDepth, h 9999]
theorem some_eql (w : World) (a : Addr) (l c : Nat) : (binOp .eql 22 (.slice (some a) l c) (.slice none 0 0)).run Yba.prog w = .ok (.bool false) w := by
  have h : ∀ d : Nat, (Op.equalIn (d + 1) 22 (.slice (some a) l c) (.slice none 0 0)).run Yba.prog w = .ok false w := fun d => by
    simp [Op.equalIn, run_underlying Yba.underlying22]
  simp only [binOp]
  simp [Op.equal, Op.maxDepth, h 9999]

def cut0 : Value → Value
  | .slice a _ c => .slice a 0 c
  | v => v
theorem own_cut {S : Nat → Prop} {w w' : World} {base : Nat} {v : Value} {n : Nat} {xs : List Value} (h : w.ownsRow base 47 1 v n xs) (hs : Spare S w w') (hS : ∀ k, base ≤ k → ¬ S k) : w'.ownsRow base 47 1 (cut0 v) 0 [] := by
  refine ⟨rfl, ?_⟩
  rcases h.2 with ⟨rfl, rfl⟩ | ⟨g, cap, cur, rfl, h1, h2, h3, h4, h5, _⟩
  · exact .inl ⟨rfl, rfl⟩
  · exact .inr ⟨g, cap, cur, rfl, h1, (hs.block g (Array.getElem?_eq_some_iff.1 h2).1 (hS g h1)).trans h2, Nat.zero_le _, h4, h5, by simp⟩
theorem own_shape {w : World} {base : Nat} {v : Value} {n : Nat} {xs : List Value} (h : w.ownsRow base 47 1 v n xs) : (v = .slice none 0 0) ∨ ∃ g cap, v = .slice (some ⟨g, 0, none⟩) n cap ∧ n ≤ cap ∧ base ≤ g ∧ cap ≤ maxLen := by
  rcases h.2 with ⟨rfl, rfl⟩ | ⟨g, cap, cur, rfl, h1, _, h3, h4, _, _⟩
  · exact .inl rfl
  · exact .inr ⟨g, cap, rfl, h3, h1, h4⟩
theorem own_row {w : World} {base g cap n : Nat} {xs : List Value} (h : w.ownsRow base 47 1 (.slice (some ⟨g, 0, none⟩) n cap) n xs) : base ≤ g ∧ ∃ rest, Row w g 47 (xs ++ rest) := by
  rcases h.2 with ⟨h, _⟩ | ⟨g', cap', cur, he, h1, h2, _, _, _, h6⟩
  · simp at h
  · simp at he
    obtain ⟨rfl, rfl⟩ := he
    refine ⟨h1, cur.toList.drop (n * 1), ?_⟩
    unfold Row
    rw [h2, ← h6, List.take_append_drop]
theorem Spare.grown {w w' : World} {row : Option Nat} (h : w.grownBy w' row) : Spare (fun k => some k = row) w w' := ⟨h.os, h.tape, h.output, h.size, fun k hk hS => h.block k hk hS⟩

set_option maxRecDepth 100000 in
set_option maxHeartbeats 4000000 in
theorem reorder_nil (mb pbi cb L ord : Nat) (m0 m1 m3 scr : Value) (w : World) (hm : Hid (Row w mb 39 [m0, m1, .map (some ord), m3, scr])) (hlk : Hid (∀ w', Spare Non w w' → (Instr.lookup 35 (.map (some ord)) (.pointer (some ⟨pbi, 0, none⟩)) false).run Yba.prog w' = .ok (.slice none 0 0) w')) :
    Calls Yba.prog 11 #[.pointer (some ⟨mb, 0, none⟩), .agg #[.pointer (some ⟨pbi, 0, none⟩), .slice (some ⟨cb, 0, none⟩) L L]] w fun e w' => e = .returned (.tuple #[]) ∧ Spare Non w w' := by
  go_enter Yba.func11, Yba.ntmps11
  go_wp2
  have RB := Row.alloc w 49 [.pointer (some ⟨pbi, 0, none⟩), .slice (some ⟨cb, 0, none⟩) L L]
  have SB := Spare.alloc Non w (.cells #[.pointer (some ⟨pbi, 0, none⟩), .slice (some ⟨cb, 0, none⟩) L L] 49)
  have RM := hm.out.spare SB id
  generalize hbc : w.heap.size = bc at RB ⊢
  have HBC : Hid (w.heap.size = bc) := hbc
  clear hbc
  generalize w.alloc (.cells #[.pointer (some ⟨pbi, 0, none⟩), .slice (some ⟨cb, 0, none⟩) L L] 49) = w1 at RB SB RM ⊢
  have c1 : w1.cell? ⟨mb, 2, none⟩ = some (.map (some ord)) := RM.cell rfl
  have c2 : w1.cell? ⟨bc, 0, none⟩ = some (.pointer (some ⟨pbi, 0, none⟩)) := RB.cell rfl
  refine wp_region_quiet_lit (by kernel_rfl) (by kernel_rfl) ?_
  repeat (go_big_quiet_step (fail))
  refine quiet_lookup rfl _ _ _ _ rfl (.map (some ord)) (.pointer (some ⟨pbi, 0, none⟩)) (.slice none 0 0) rfl rfl (fun w' ⟨m, hm⟩ => by rw [hm]; exact hlk.out _ (SB.off (Spare.drewN Non w1 m))) ?_
  try simp only [Act.put, List.setIfInBounds_toArray, List.set_cons_zero, List.set_cons_succ]
  repeat (go_big_quiet_step (fail))
  refine wpQuiet_nil ?_
  rintro _ ⟨nq, rfl⟩
  try simp only [Act.put, List.setIfInBounds_toArray, List.set_cons_zero, List.set_cons_succ]
  have heq := nil_eql (w1.drewN nq)
  go_wp2
  (try simp only [Exit.inBlock, Exit.then]); refine bodyPost_ret (results_none rfl _ _ _) rfl ?_
  exact ⟨rfl, SB.off (Spare.drewN Non w1 nq)⟩

/-- What the append leaves. -/
theorem reo_grown {w w2 w3 : World} {base mb cb ordb bc ord pbi L g cap : Nat} {m0 m1 m3 scr v0 : Value} {cs : List Int} {perm : List Nat} (hS2 : Spare Non w w2) (hm : Row w mb 39 [m0, m1, .map (some ord), m3, scr]) (hb : Row w2 bc 49 [.pointer (some ⟨pbi, 0, none⟩), .slice (some ⟨cb, 0, none⟩) L L])
    (hc : Row w cb 47 (cs.map (Value.int .u64))) (ho : Row w ordb 3 (perm.map fun i : Nat => Value.int .i64 (i : Int))) (hlt : mb < base ∧ cb < base ∧ ordb < base ∧ base ≤ w.heap.size) (hbc : w.heap.size = bc) (hv : v0 = .slice none 0 0 ∨ ∃ g c, v0 = .slice (some ⟨g, 0, none⟩) 0 c ∧ base ≤ g ∧ g < w.heap.size)
    (hown : w3.ownsRow base 47 1 (.slice (some ⟨g, 0, none⟩) L cap) L (cs.map (Value.int .u64))) (hg : w2.grownBy w3 v0.ownBlock) :
    Row w3 mb 39 [m0, m1, .map (some ord), m3, scr] ∧ Row w3 bc 49 [.pointer (some ⟨pbi, 0, none⟩), .slice (some ⟨cb, 0, none⟩) L L] ∧ Row w3 cb 47 (cs.map (Value.int .u64)) ∧ Row w3 ordb 3 (perm.map fun i : Nat => Value.int .i64 (i : Int)) ∧ (base ≤ g ∧ ∃ rest, Row w3 g 47 (cs.map (Value.int .u64) ++ rest)) ∧ Spare (fun k => some k = v0.ownBlock) w w3 := by
  have S := Spare.grown hg
  have nb : ∀ k, k < base ∨ w.heap.size ≤ k → ¬ (some k = v0.ownBlock) := fun k hk e => by
    rcases hv with rfl | ⟨g', c, rfl, h1, h2⟩
    · cases e
    · have e' : k = g' := by simpa [Value.ownBlock] using e
      omega
  refine ⟨(hm.spare hS2 id).spare S (nb _ (by omega)), hb.spare S (nb _ (by omega)), (hc.spare hS2 id).spare S (nb _ (by omega)), (ho.spare hS2 id).spare S (nb _ (by omega)), own_row hown, ?_⟩
  exact hS2.then S (fun _ _ e => absurd e id) (fun _ _ e => e)
def halfp (perm : List Nat) (cs : List Int) (j : Nat) : List Int := ((perm.take j).map fun i => cs.getD i 0) ++ cs.drop j
theorem halfp_zero (perm : List Nat) (cs : List Int) : halfp perm cs 0 = cs := by simp [halfp]
theorem halfp_all (perm : List Nat) (cs : List Int) (L : Nat) (h1 : perm.length = L) (h2 : cs.length = L) : halfp perm cs L = perm.map fun i => cs.getD i 0 := by
  simp [halfp, List.take_of_length_le (Nat.le_of_eq h1), List.drop_eq_nil_of_le (Nat.le_of_eq h2)]
theorem halfp_get (perm : List Nat) (cs : List Int) (j : Nat) (h1 : j < perm.length) (h2 : j < cs.length) : ∃ y, (halfp perm cs j)[j]? = some y :=
  ⟨(halfp perm cs j)[j]'(by simp [halfp]; omega), List.getElem?_eq_getElem _⟩
theorem halfp_set (perm : List Nat) (cs : List Int) (j : Nat) {f : Nat} (hf : perm[j]? = some f) (h : perm.length = cs.length) : halfp perm cs (j + 1) = (halfp perm cs j).set j (cs.getD f 0) := by
  obtain ⟨hj, _⟩ := List.getElem?_eq_some_iff.1 hf
  have hl : ((perm.take j).map fun i => cs.getD i 0).length = j := by simp; omega
  unfold halfp
  rw [List.set_append_right _ _ (by omega), hl, Nat.sub_self, List.drop_eq_getElem_cons (by omega : j < cs.length), List.set_cons_zero, List.take_add_one, hf]
  simp
theorem own_keep {S : Nat → Prop} {w w' : World} {base : Nat} {v : Value} {n : Nat} {xs : List Value} (h : w.ownsRow base 47 1 v n xs) (hs : Spare S w w') (hS : ∀ k, base ≤ k → ¬ S k) : w'.ownsRow base 47 1 v n xs := by
  refine ⟨h.1, ?_⟩
  rcases h.2 with h0 | ⟨g, cap, cur, rfl, h1, h2, h3⟩
  · exact .inl h0
  · exact .inr ⟨g, cap, cur, rfl, h1, (hs.block g (Array.getElem?_eq_some_iff.1 h2).1 (hS g h1)).trans h2, h3⟩
theorem own_lt {w : World} {base g cap n : Nat} {xs : List Value} (h : w.ownsRow base 47 1 (.slice (some ⟨g, 0, none⟩) n cap) n xs) : g < w.heap.size := by
  obtain ⟨_, _, r⟩ := own_row h
  exact r.lt
theorem maxLen_big : 1048576 ≤ maxLen := by decide

set_option maxRecDepth 100000 in
set_option maxHeartbeats 8000000 in
theorem reorder_perm (mb pbi cb L ord ordb base n : Nat) (m0 m1 m3 scr : Value) (cs : List Int) (perm : List Nat) (xs : List Value) (w : World) (hm : Hid (Row w mb 39 [m0, m1, .map (some ord), m3, scr])) (hlk : Hid (∀ w', Spare Non w w' → (Instr.lookup 35 (.map (some ord)) (.pointer (some ⟨pbi, 0, none⟩)) false).run Yba.prog w' = .ok (.slice (some ⟨ordb, 0, none⟩) L L) w'))
    (hc : Hid (Row w cb 47 (cs.map (Value.int .u64)))) (ho : Hid (Row w ordb 3 (perm.map fun i : Nat => Value.int .i64 (i : Int)))) (hcl : Hid (cs.length = L)) (hL : 0 < L) (hL2 : L ≤ 1024) (hp : Hid (perm.Perm (List.range L))) (hown : Hid (w.ownsRow base 47 1 scr n xs)) (hlt : Hid (mb < base ∧ cb < base ∧ ordb < base ∧ base ≤ w.heap.size)) (hne : Hid (cb ≠ mb ∧ ordb ≠ mb ∧ ordb ≠ cb)) :
    Calls Yba.prog 11 #[.pointer (some ⟨mb, 0, none⟩), .agg #[.pointer (some ⟨pbi, 0, none⟩), .slice (some ⟨cb, 0, none⟩) L L]] w fun e w' => e = .returned (.tuple #[]) ∧ Row w' cb 47 ((perm.map fun i => cs.getD i 0).map (Value.int .u64)) ∧
      (∃ scr' n' xs', Row w' mb 39 [m0, m1, .map (some ord), m3, scr'] ∧ w'.ownsRow base 47 1 scr' n' xs') ∧ Spare (fun k => k = mb ∨ k = cb ∨ some k = scr.ownBlock) w w' := by
  obtain ⟨i0, hi0, hz0, hz1, hz2⟩ := info_parts info47
  go_enter Yba.func11, Yba.ntmps11
  go_wp2
  have RB := Row.alloc w 49 [.pointer (some ⟨pbi, 0, none⟩), .slice (some ⟨cb, 0, none⟩) L L]
  have SB := Spare.alloc Non w (.cells #[.pointer (some ⟨pbi, 0, none⟩), .slice (some ⟨cb, 0, none⟩) L L] 49)
  have RM := hm.out.spare SB id
  generalize hbc : w.heap.size = bc at RB ⊢
  have HBC : Hid (w.heap.size = bc) := hbc
  clear hbc
  generalize w.alloc (.cells #[.pointer (some ⟨pbi, 0, none⟩), .slice (some ⟨cb, 0, none⟩) L L] 49) = w1 at RB SB RM ⊢
  have c1 : w1.cell? ⟨mb, 2, none⟩ = some (.map (some ord)) := RM.cell rfl
  have c2 : w1.cell? ⟨bc, 0, none⟩ = some (.pointer (some ⟨pbi, 0, none⟩)) := RB.cell rfl
  refine wp_region_quiet_lit (by kernel_rfl) (by kernel_rfl) ?_
  repeat (go_big_quiet_step (fail))
  refine quiet_lookup rfl _ _ _ _ rfl (.map (some ord)) (.pointer (some ⟨pbi, 0, none⟩)) (.slice (some ⟨ordb, 0, none⟩) L L) rfl rfl (fun w' ⟨m, hm⟩ => by rw [hm]; exact hlk.out _ (SB.off (Spare.drewN Non w1 m))) ?_
  try simp only [Act.put, List.setIfInBounds_toArray, List.set_cons_zero, List.set_cons_succ]
  repeat (go_big_quiet_step (fail))
  refine wpQuiet_nil ?_
  rintro _ ⟨nq, rfl⟩
  try simp only [Act.put, List.setIfInBounds_toArray, List.set_cons_zero, List.set_cons_succ]
  have HS2 : Hid (Spare Non w (w1.drewN nq)) := SB.off (Spare.drewN Non w1 nq)
  have HRB : Hid (Row (w1.drewN nq) bc 49 [.pointer (some ⟨pbi, 0, none⟩), .slice (some ⟨cb, 0, none⟩) L L]) := RB
  have HRM : Hid (Row (w1.drewN nq) mb 39 [m0, m1, .map (some ord), m3, scr]) := RM
  clear c1 c2 RB RM SB
  generalize w1.drewN nq = w2 at HS2 HRB HRM ⊢
  have c4 : w2.cell? ⟨mb, 4, none⟩ = some scr := HRM.out.cell rfl
  have cb1 : w2.cell? ⟨bc, 1, none⟩ = some (.slice (some ⟨cb, 0, none⟩) L L) := HRB.out.cell rfl
  have hOC := own_cut hown.out HS2.out (fun _ _ => id)
  have hcs2 : ∀ j u, (cs.map (Value.int .u64))[j]? = some u → w2.cell? ((⟨cb, 0, none⟩ : Addr).add j) = some u := fun j u hj => by
    rw [Addr.add_mid, Nat.zero_add]
    exact (hc.out.spare HS2.out id).cell hj
  have hbs : base ≤ w2.heap.size := Nat.le_trans hlt.out.2.2.2 HS2.out.size
  have hcl2 : (cs.map (Value.int .u64)).length = L * 1 := by rw [List.length_map, Nat.mul_one]; exact hcl
  have hone : ∀ u ∈ cs.map (Value.int .u64), u.oneCell' = true := fun u hu => by obtain ⟨x, _, rfl⟩ := List.mem_map.1 hu; rfl
  have hmx := maxLen_big
  have heq := some_eql w2 ⟨ordb, 0, none⟩ L L
  rcases own_shape hown.out with rfl | ⟨gs, caps, rfl, hns, hgs, hcm⟩
  · have hv : cut0 (.slice none 0 0) = .slice none 0 0 ∨ ∃ g c, cut0 (.slice none 0 0) = .slice (some ⟨g, 0, none⟩) 0 c ∧ base ≤ g ∧ g < w.heap.size := .inl rfl
    go_wp2
    go_region_law (first
      | (refine step_append_lies _ rfl _ _ 37 rfl base 47 i0 (.int .u64 0) 1 8 Yba.underlying37 hi0 hz0 hz1 hz2 rfl (by decide) (cut0 (.slice none 0 0)) 0 [] rfl hOC ⟨cb, 0, none⟩ L L (cs.map (Value.int .u64)) rfl hcl2 hcs2 hone hL (by omega) (by omega) hbs _ rfl ?_
         intro g' cap' w3 hown3 hgrow hat hlg
         have hown4 : w3.ownsRow base 47 1 (.slice (some ⟨g', 0, none⟩) L cap') L (cs.map (Value.int .u64)) := by simpa using hown3
         have GG := reo_grown (w2 := w2.drew) (HS2.out.redrew rfl rfl rfl rfl) hm.out HRB.out hc.out ho.out hlt.out HBC.out hv hown4 hgrow
         have c4' : w3.cell? ⟨mb, 4, none⟩ = some (.slice none 0 0) := GG.1.cell rfl
         have f4' := GG.1.frozen 4))
    all_goals
      clear heq c4 cb1 hOC hcs2 hcl2 hone c4' f4' hown3 hgrow hat hlg
      obtain ⟨G1, G2, G3, G4, ⟨G5, rest5, G6⟩, G7⟩ := GG
      have hltO := hlt.out
      have hneO := hne.out
      have hbcO := HBC.out
      have K1 : Row (w3.setCell ⟨mb, 4, none⟩ (.slice (some ⟨g', 0, none⟩) L cap')) mb 39 [m0, m1, .map (some ord), m3, .slice (some ⟨g', 0, none⟩) L cap'] := G1.set 4 _
      have n1 : ∀ k, k ≠ mb → ¬ One mb k := fun k h e => h e
      have K2 := G2.spare (Spare.setCell w3 ⟨mb, 4, none⟩ (.slice (some ⟨g', 0, none⟩) L cap')) (n1 _ (by omega))
      have K3 := G3.spare (Spare.setCell w3 ⟨mb, 4, none⟩ (.slice (some ⟨g', 0, none⟩) L cap')) (n1 _ (by omega))
      have K4 := G4.spare (Spare.setCell w3 ⟨mb, 4, none⟩ (.slice (some ⟨g', 0, none⟩) L cap')) (n1 _ (by omega))
      have K6 := G6.spare (Spare.setCell w3 ⟨mb, 4, none⟩ (.slice (some ⟨g', 0, none⟩) L cap')) (n1 _ (by omega))
      have K7 : Spare (fun k => k = mb ∨ k = cb ∨ some k = Value.ownBlock (.slice none 0 0)) w (w3.setCell ⟨mb, 4, none⟩ (.slice (some ⟨g', 0, none⟩) L cap')) := (G7.mono (S' := fun k => k = mb ∨ k = cb ∨ some k = Value.ownBlock (.slice none 0 0)) (fun _ _ e => .inr (.inr e))).on (Spare.setCell w3 ⟨mb, 4, none⟩ _) (fun _ => .inl rfl)
      have K5 : (w3.setCell ⟨mb, 4, none⟩ (.slice (some ⟨g', 0, none⟩) L cap')).ownsRow base 47 1 (.slice (some ⟨g', 0, none⟩) L cap') L (cs.map (Value.int .u64)) := own_keep hown4 (Spare.setCell w3 ⟨mb, 4, none⟩ (.slice (some ⟨g', 0, none⟩) L cap')) (fun k hk => n1 k (by omega))
      generalize w3.setCell ⟨mb, 4, none⟩ (.slice (some ⟨g', 0, none⟩) L cap') = w4 at K1 K2 K3 K4 K5 K6 K7 ⊢
      have HNN : Hid (cb ≠ mb ∧ ordb ≠ cb ∧ bc ≠ cb ∧ g' ≠ cb ∧ mb ≠ cb) := ⟨by omega, by omega, by omega, by omega, by omega⟩
      have HK1 : Hid (Row w4 mb 39 [m0, m1, .map (some ord), m3, .slice (some ⟨g', 0, none⟩) L cap']) := K1
      have HK2 : Hid (Row w4 bc 49 [.pointer (some ⟨pbi, 0, none⟩), .slice (some ⟨cb, 0, none⟩) L L]) := K2
      have HK3 : Hid (Row w4 cb 47 (cs.map (Value.int .u64))) := K3
      have HK4 : Hid (Row w4 ordb 3 (perm.map fun i : Nat => Value.int .i64 (i : Int))) := K4
      have HK5 : Hid (w4.ownsRow base 47 1 (.slice (some ⟨g', 0, none⟩) L cap') L (cs.map (Value.int .u64))) := K5
      have HK6 : Hid (Row w4 g' 47 (cs.map (Value.int .u64) ++ rest5)) := K6
      have HK7 : Hid (Spare (fun k => k = mb ∨ k = cb ∨ some k = Value.ownBlock (.slice none 0 0)) w w4) := K7
      clear G1 G2 G3 G4 G5 G6 G7 K1 K2 K3 K4 K5 K6 K7 hltO hneO hbcO n1 hown4 hbs hmx hv
      go_wp2
      go_loopw [29] (fun ix wk => ∃ j : Nat, j ≤ L ∧ ix = .int .i64 j ∧ Hid (Row wk cb 47 ((halfp perm cs j).map (Value.int .u64))) ∧ Hid (Spare (One cb) w4 wk)) (fun ix _ => L - (intOf ix).toNat)
      case atStart => exact ⟨0, Nat.zero_le _, by go_num, by show Row _ _ _ _; rw [halfp_zero]; exact HK3.out, Spare.refl _ _⟩
      case round =>
        obtain ⟨j, hj0, rfl, HR, HS⟩ := hrel
        obtain ⟨n1, n2, n3, n4, n5⟩ := HNN.out
        have hpl : perm.length = L := by rw [hp.out.length_eq]; simp
        have hcl0 : cs.length = L := hcl
        by_cases hj : j < L
        · obtain ⟨f, hf⟩ : ∃ f, perm[j]? = some f := ⟨perm[j]'(by omega), List.getElem?_eq_getElem (by omega)⟩
          have hfk : f < L := by simpa using hp.out.mem_iff.1 (List.mem_of_getElem? hf)
          have d1 : wr.cell? ⟨ordb, j, none⟩ = some (.int .i64 f) := spare_cell HS.out (HK4.out.cell (by rw [List.getElem?_map, hf]; rfl)) n2
          have d2 : wr.cell? ⟨bc, 1, none⟩ = some (.slice (some ⟨cb, 0, none⟩) L L) := spare_cell HS.out (HK2.out.cell rfl) n3
          have d3 : wr.cell? ⟨mb, 4, none⟩ = some (.slice (some ⟨g', 0, none⟩) L cap') := spare_cell HS.out (HK1.out.cell rfl) n5
          have d4 : wr.cell? ⟨g', f, none⟩ = some (.int .u64 (cs.getD f 0)) := spare_cell HS.out (HK6.out.cell (by rw [List.getElem?_append_left (by simp; omega)]; simp [show f < cs.length by omega])) n4
          obtain ⟨y0, hy0⟩ : ∃ y0, (halfp perm cs j)[j]? = some y0 := halfp_get perm cs j (by omega) (by omega)
          have d5 : wr.cell? ⟨cb, j, none⟩ = some (.int .u64 y0) := HR.out.cell (by rw [List.getElem?_map, hy0]; rfl)
          have f5 := HR.out.frozen j
          have hset := halfp_set perm cs j hf (show perm.length = cs.length by omega)
          generalize hy : cs.getD f 0 = y at d4 hset
          have HSET : Hid (halfp perm cs (j + 1) = (halfp perm cs j).set j y) := hset
          have i1 : (f : Int) < (L : Int) := by omega
          have i2 : (0 : Int) ≤ (j : Int) := by omega
          have i3 : (j : Int) < (L : Int) := by omega
          have i4 : (0 : Int) ≤ (f : Int) := by omega
          clear hy hf hset hy0 hpl hcl0 n1 n2 n3 n4 n5
          go_wp2
          go_region
          all_goals
            go_wp2
            go_roundw
            case rel =>
              have h := HR.out.set j (.int .u64 y)
              rw [← List.map_set, ← HSET.out] at h
              exact ⟨j + 1, by omega, by go_num, h, (HS.out.on (Spare.setCell wr ⟨cb, j, none⟩ (.int .u64 y)) (fun _ => rfl)).redrew rfl rfl rfl rfl⟩
            case measure => simp [intOf]; omega
        · obtain rfl : L = j := by omega
          have h := HR.out
          rw [halfp_all perm cs L hpl hcl0] at h
          go_wp2
          go_end0
          exact ⟨rfl, h, ⟨_, _, _, HK1.out.spare HS.out n5, own_keep HK5.out HS.out (fun k hk e => by have e' : k = cb := e; have := hlt.out; omega)⟩, HK7.out.on HS.out (fun _ => .inr (.inl rfl))⟩
  · have hv : cut0 (.slice (some ⟨gs, 0, none⟩) n caps) = .slice none 0 0 ∨ ∃ g c, cut0 (.slice (some ⟨gs, 0, none⟩) n caps) = .slice (some ⟨g, 0, none⟩) 0 c ∧ base ≤ g ∧ g < w.heap.size := .inr ⟨gs, caps, rfl, hgs, (own_lt hown.out)⟩
    go_wp2
    go_region_law (first
      | (refine step_append_lies _ rfl _ _ 37 rfl base 47 i0 (.int .u64 0) 1 8 Yba.underlying37 hi0 hz0 hz1 hz2 rfl (by decide) (cut0 (.slice (some ⟨gs, 0, none⟩) n caps)) 0 [] rfl hOC ⟨cb, 0, none⟩ L L (cs.map (Value.int .u64)) rfl hcl2 hcs2 hone hL (by omega) (by omega) hbs _ rfl ?_
         intro g' cap' w3 hown3 hgrow hat hlg
         have hown4 : w3.ownsRow base 47 1 (.slice (some ⟨g', 0, none⟩) L cap') L (cs.map (Value.int .u64)) := by simpa using hown3
         have GG := reo_grown (w2 := w2.drew) (HS2.out.redrew rfl rfl rfl rfl) hm.out HRB.out hc.out ho.out hlt.out HBC.out hv hown4 hgrow
         have c4' : w3.cell? ⟨mb, 4, none⟩ = some (.slice (some ⟨gs, 0, none⟩) n caps) := GG.1.cell rfl
         have f4' := GG.1.frozen 4))
    all_goals
      clear heq c4 cb1 hOC hcs2 hcl2 hone c4' f4' hown3 hgrow hat hlg
      obtain ⟨G1, G2, G3, G4, ⟨G5, rest5, G6⟩, G7⟩ := GG
      have hltO := hlt.out
      have hneO := hne.out
      have hbcO := HBC.out
      have K1 : Row (w3.setCell ⟨mb, 4, none⟩ (.slice (some ⟨g', 0, none⟩) L cap')) mb 39 [m0, m1, .map (some ord), m3, .slice (some ⟨g', 0, none⟩) L cap'] := G1.set 4 _
      have n1 : ∀ k, k ≠ mb → ¬ One mb k := fun k h e => h e
      have K2 := G2.spare (Spare.setCell w3 ⟨mb, 4, none⟩ (.slice (some ⟨g', 0, none⟩) L cap')) (n1 _ (by omega))
      have K3 := G3.spare (Spare.setCell w3 ⟨mb, 4, none⟩ (.slice (some ⟨g', 0, none⟩) L cap')) (n1 _ (by omega))
      have K4 := G4.spare (Spare.setCell w3 ⟨mb, 4, none⟩ (.slice (some ⟨g', 0, none⟩) L cap')) (n1 _ (by omega))
      have K6 := G6.spare (Spare.setCell w3 ⟨mb, 4, none⟩ (.slice (some ⟨g', 0, none⟩) L cap')) (n1 _ (by omega))
      have K7 : Spare (fun k => k = mb ∨ k = cb ∨ some k = Value.ownBlock (.slice (some ⟨gs, 0, none⟩) n caps)) w (w3.setCell ⟨mb, 4, none⟩ (.slice (some ⟨g', 0, none⟩) L cap')) := (G7.mono (S' := fun k => k = mb ∨ k = cb ∨ some k = Value.ownBlock (.slice (some ⟨gs, 0, none⟩) n caps)) (fun _ _ e => .inr (.inr e))).on (Spare.setCell w3 ⟨mb, 4, none⟩ _) (fun _ => .inl rfl)
      have K5 : (w3.setCell ⟨mb, 4, none⟩ (.slice (some ⟨g', 0, none⟩) L cap')).ownsRow base 47 1 (.slice (some ⟨g', 0, none⟩) L cap') L (cs.map (Value.int .u64)) := own_keep hown4 (Spare.setCell w3 ⟨mb, 4, none⟩ (.slice (some ⟨g', 0, none⟩) L cap')) (fun k hk => n1 k (by omega))
      generalize w3.setCell ⟨mb, 4, none⟩ (.slice (some ⟨g', 0, none⟩) L cap') = w4 at K1 K2 K3 K4 K5 K6 K7 ⊢
      have HNN : Hid (cb ≠ mb ∧ ordb ≠ cb ∧ bc ≠ cb ∧ g' ≠ cb ∧ mb ≠ cb) := ⟨by omega, by omega, by omega, by omega, by omega⟩
      have HK1 : Hid (Row w4 mb 39 [m0, m1, .map (some ord), m3, .slice (some ⟨g', 0, none⟩) L cap']) := K1
      have HK2 : Hid (Row w4 bc 49 [.pointer (some ⟨pbi, 0, none⟩), .slice (some ⟨cb, 0, none⟩) L L]) := K2
      have HK3 : Hid (Row w4 cb 47 (cs.map (Value.int .u64))) := K3
      have HK4 : Hid (Row w4 ordb 3 (perm.map fun i : Nat => Value.int .i64 (i : Int))) := K4
      have HK5 : Hid (w4.ownsRow base 47 1 (.slice (some ⟨g', 0, none⟩) L cap') L (cs.map (Value.int .u64))) := K5
      have HK6 : Hid (Row w4 g' 47 (cs.map (Value.int .u64) ++ rest5)) := K6
      have HK7 : Hid (Spare (fun k => k = mb ∨ k = cb ∨ some k = Value.ownBlock (.slice (some ⟨gs, 0, none⟩) n caps)) w w4) := K7
      clear G1 G2 G3 G4 G5 G6 G7 K1 K2 K3 K4 K5 K6 K7 hltO hneO hbcO n1 hown4 hbs hmx hv
      go_wp2
      go_loopw [29] (fun ix wk => ∃ j : Nat, j ≤ L ∧ ix = .int .i64 j ∧ Hid (Row wk cb 47 ((halfp perm cs j).map (Value.int .u64))) ∧ Hid (Spare (One cb) w4 wk)) (fun ix _ => L - (intOf ix).toNat)
      case atStart => exact ⟨0, Nat.zero_le _, by go_num, by show Row _ _ _ _; rw [halfp_zero]; exact HK3.out, Spare.refl _ _⟩
      case round =>
        obtain ⟨j, hj0, rfl, HR, HS⟩ := hrel
        obtain ⟨n1, n2, n3, n4, n5⟩ := HNN.out
        have hpl : perm.length = L := by rw [hp.out.length_eq]; simp
        have hcl0 : cs.length = L := hcl
        by_cases hj : j < L
        · obtain ⟨f, hf⟩ : ∃ f, perm[j]? = some f := ⟨perm[j]'(by omega), List.getElem?_eq_getElem (by omega)⟩
          have hfk : f < L := by simpa using hp.out.mem_iff.1 (List.mem_of_getElem? hf)
          have d1 : wr.cell? ⟨ordb, j, none⟩ = some (.int .i64 f) := spare_cell HS.out (HK4.out.cell (by rw [List.getElem?_map, hf]; rfl)) n2
          have d2 : wr.cell? ⟨bc, 1, none⟩ = some (.slice (some ⟨cb, 0, none⟩) L L) := spare_cell HS.out (HK2.out.cell rfl) n3
          have d3 : wr.cell? ⟨mb, 4, none⟩ = some (.slice (some ⟨g', 0, none⟩) L cap') := spare_cell HS.out (HK1.out.cell rfl) n5
          have d4 : wr.cell? ⟨g', f, none⟩ = some (.int .u64 (cs.getD f 0)) := spare_cell HS.out (HK6.out.cell (by rw [List.getElem?_append_left (by simp; omega)]; simp [show f < cs.length by omega])) n4
          obtain ⟨y0, hy0⟩ : ∃ y0, (halfp perm cs j)[j]? = some y0 := halfp_get perm cs j (by omega) (by omega)
          have d5 : wr.cell? ⟨cb, j, none⟩ = some (.int .u64 y0) := HR.out.cell (by rw [List.getElem?_map, hy0]; rfl)
          have f5 := HR.out.frozen j
          have hset := halfp_set perm cs j hf (show perm.length = cs.length by omega)
          generalize hy : cs.getD f 0 = y at d4 hset
          have HSET : Hid (halfp perm cs (j + 1) = (halfp perm cs j).set j y) := hset
          have i1 : (f : Int) < (L : Int) := by omega
          have i2 : (0 : Int) ≤ (j : Int) := by omega
          have i3 : (j : Int) < (L : Int) := by omega
          have i4 : (0 : Int) ≤ (f : Int) := by omega
          clear hy hf hset hy0 hpl hcl0 n1 n2 n3 n4 n5
          go_wp2
          go_region
          all_goals
            go_wp2
            go_roundw
            case rel =>
              have h := HR.out.set j (.int .u64 y)
              rw [← List.map_set, ← HSET.out] at h
              exact ⟨j + 1, by omega, by go_num, h, (HS.out.on (Spare.setCell wr ⟨cb, j, none⟩ (.int .u64 y)) (fun _ => rfl)).redrew rfl rfl rfl rfl⟩
            case measure => simp [intOf]; omega
        · obtain rfl : L = j := by omega
          have h := HR.out
          rw [halfp_all perm cs L hpl hcl0] at h
          go_wp2
          go_end0
          exact ⟨rfl, h, ⟨_, _, _, HK1.out.spare HS.out n5, own_keep HK5.out HS.out (fun k hk e => by have e' : k = cb := e; have := hlt.out; omega)⟩, HK7.out.on HS.out (fun _ => .inr (.inl rfl))⟩
end Go.Proofs.Ybulkcwdy
