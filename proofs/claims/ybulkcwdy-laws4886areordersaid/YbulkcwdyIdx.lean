/-
  sortedIndices, by slices.SortFunc; slices.Sort, slices.Compact, slices.Equal on rows.
-/
import Derived.Test.YbulkcwdySf
import Derived.Test.YbulkcwdyCmp
import Derived.Test.YbulkcwdyBldW
namespace Go.Proofs.Ybulkcwdy
open Go.RowKit Go.ChangeMaps

theorem at_rep {α : Type} (xs : List α) (k n : Nat) (z : α) (hx : xs.length = k) (hk : k < n) : (xs ++ List.replicate (n - k) z)[k]? = some z := by
  rw [List.getElem?_append_right (by omega), hx, Nat.sub_self, List.getElem?_replicate, if_pos (by omega)]
theorem sortC : SortC := by
  intro b cap zs rest w hR hl
  by_cases h0 : zs = []
  · subst h0
    exact (Yba.slices_Sort_int_none (some ⟨b, 0, none⟩) cap w).mono fun e w' ⟨he, hw⟩ => by subst hw; exact ⟨he, by rw [show sortd [] = [] from List.mergeSort_nil]; exact hR, Spare.refl _ _⟩
  · refine (Yba.slices_Sort_int b 0 cap zs w hR.holds hR.lt (by omega)).mono fun e w' ⟨he, n, os, hw⟩ => ?_
    subst hw
    have hR' : Row (Sort.ahead w n) b 3 (zs.map (Value.int .i64) ++ rest) := hR
    refine ⟨he, ?_, Spare.put w b n _ os _⟩
    exact (hR'.put (ds := sortd zs) (Value.int .i64) (by simp [sortd])).grow os

theorem compactC : CompactC := by
  intro b cap zs rest w hR hl hcap
  refine (Yba.slices_Compact_int b 0 cap zs w hR.holds (by omega) hcap).mono fun e w' ⟨he, q, hw⟩ => ?_
  subst hw
  have hR' : Row (Sort.ahead w q) b 3 (zs.map (Value.int .i64) ++ rest) := hR
  have hlen : (Lib.compact zs ++ List.replicate (zs.length - (Lib.compact zs).length) 0).length = zs.length := by
    have := compact_len zs
    simp; omega
  have h := hR'.put (ds := Lib.compact zs ++ List.replicate (zs.length - (Lib.compact zs).length) 0) (Value.int .i64) (by rw [hlen]; simp)
  have s := Spare.put w b q (Lib.compact zs ++ List.replicate (zs.length - (Lib.compact zs).length) 0).toArray #[] (Value.int .i64)
  rw [Sort.grow_empty] at s
  rw [List.map_append, List.append_assoc] at h
  exact ⟨he, ⟨_, h⟩, s⟩

theorem equal_at {w : World} {b1 b2 c1 c2 : Nat} {xs ys : List Int} {r1 r2 : List Value} (R1 : Row w b1 3 (xs.map (Value.int .i64) ++ r1)) (R2 : Row w b2 3 (ys.map (Value.int .i64) ++ r2)) (h1 : xs.length ≤ 1048576) (h2 : ys.length ≤ 1048576) :
    Calls Yba.prog 8 #[.slice (some ⟨b1, 0, none⟩) xs.length c1, .slice (some ⟨b2, 0, none⟩) ys.length c2] w fun e w' => e = .returned (.bool (xs == ys)) ∧ ∃ q, w' = w.drewN q := by
  have c : ∀ {b : Nat} {zs : List Int} {r : List Value}, Row w b 3 (zs.map (Value.int .i64) ++ r) → ∀ j, j < zs.length → w.cell? ⟨b, 0 + j, none⟩ = some (.int .i64 (zs.getD j 0)) := fun R j hj => by
    rw [Nat.zero_add]
    refine R.cell ?_
    rw [List.getElem?_append_left (by simpa using hj)]
    simp [hj]
  have := Yba.slices_Equal_int b1 0 xs.length c1 b2 0 ys.length c2 xs ys w (Nat.le_refl _) (Nat.le_refl _) (by omega) (by omega) (c R1) (c R2)
  rw [List.take_length, List.take_length] at this
  exact this

theorem ltCmp (x y : Int) : decide (Lib.compareInt x y < 0) = decide (x < y) := by
  unfold Lib.compareInt
  by_cases h1 : x < y
  · simp [h1]
  · by_cases h2 : y < x <;> simp [h1, h2]

def fz (zs : List Int) {m : Nat} (x : Fin (m + 1)) : Int := zs.getD x.val 0
def cfz (zs : List Int) {m : Nat} (x y : Fin (m + 1)) : Int := Lib.compareInt (fz zs x) (fz zs y)
theorem swoz (zs : List Int) {m : Nat} : Sort.SWO (ltOf (cfz (m := m) zs)) where
  irrefl x := by unfold ltOf cfz; rw [ltCmp]; simp
  trans x y z h1 h2 := by unfold ltOf cfz at *; rw [ltCmp] at *; simp at *; omega
  ntrans x y z h1 h2 := by unfold ltOf cfz at *; rw [ltCmp] at *; simp at *; omega
def encF {m : Nat} (x : Fin (m + 1)) : Value := .int .i64 (x.val : Int)

theorem sortFunc_at (m bx g cap b : Nat) (zs : List Int) (rest : List Value) (hz : zs.length = m + 1) (hm : m ≤ 1024) (w : World) (hb : Row w bx 22 [.slice (some ⟨g, 0, none⟩) (m + 1) cap]) (hg : Row w g 3 (zs.map (Value.int .i64) ++ rest))
    (hr : Row w b 3 ((List.range (m + 1)).map fun i : Nat => Value.int .i64 (i : Int))) (n1 : bx ≠ b) (n2 : g ≠ b) :
    Calls Yba.prog 21 #[.slice (some ⟨b, 0, none⟩) (m + 1) (m + 1), .func (.func 15) #[] #[.pointer (some ⟨bx, 0, none⟩)]] w fun e w' => e = .returned (.tuple #[]) ∧
      (∃ os : List Nat, Row w' b 3 (os.map fun i : Nat => Value.int .i64 (i : Int)) ∧ os.Perm (List.range (m + 1)) ∧ (os.map fun i => zs.getD i 0).Pairwise (· ≤ ·)) ∧ Spare (One b) w w' := by
  have eg : ∀ args w, (callFunc 15 args).run Yba.prog w = .ok (.enter 15 args) w := enters_of Yba.func15 (by kernel_rfl) rfl
  obtain ⟨d, hde⟩ : ∃ d : Array (Fin (m + 1)), d = (List.finRange (m + 1)).toArray := ⟨_, rfl⟩
  have hd : d.size = m + 1 := by simp [hde]
  have hdv : d.toList.map encF = (List.range (m + 1)).map fun i : Nat => Value.int .i64 (i : Int) := by
    apply List.ext_getElem
    · simp [hde]
    · intro i h1 h2
      simp [hde, encF]
  have hH : Sort.Holds encF w b 0 d := by
    intro j hj
    rw [hd] at hj
    rw [Nat.zero_add]
    refine ⟨hr.cell ?_, hr.frozen j⟩
    rw [← hdv]
    simp [hde, encF, hj]
  have hC : CmpLays1 Yba.prog 15 #[.pointer (some ⟨bx, 0, none⟩)] encF (cfz (m := m) zs) b 0 d.size w := by
    refine CmpReads.lays ?_
    intro k os dk hdk x y
    have S : Spare (One b) w (sortWorld encF w b 0 k dk os) := Spare.put w b k dk os encF
    have r1 := hb.spare S n1
    have r2 := hg.spare S n2
    have cx : ∀ x : Fin (m + 1), (sortWorld encF w b 0 k dk os).cell? ⟨g, x.val, none⟩ = some (.int .i64 (zs.getD x.val 0)) := fun x => r2.cell (by
      rw [List.getElem?_append_left (by simp; omega)]
      simp [hz])
    exact cmp15 bx g cap (m + 1) x.val y.val _ _ _ (r1.cell rfl) (cx x) (cx y) x.isLt y.isLt
  have h := Any.slices_SortFunc Yba.sortF encF (fun _ => rfl) (cfz zs) (swoz zs) 15 #[.pointer (some ⟨bx, 0, none⟩)] b 0 (m + 1) d w eg hC hH hr.lt (by omega)
  rw [hd] at h
  refine h.mono fun e w' ⟨he, d', q, os, hp, hs, hw⟩ => ?_
  subst hw
  obtain ⟨p1, _, p3⟩ := hp
  have hd' : d'.size = m + 1 := by rw [p1, hd]
  have e1 : d'.extract 0 (m + 1) = d' := by rw [Array.extract_eq_self_of_le (by omega)]
  have e2 : d.extract 0 (m + 1) = d := by rw [Array.extract_eq_self_of_le (by omega)]
  rw [e1, e2] at p3
  have hval : d.toList.map (fun x => x.val) = List.range (m + 1) := by
    apply List.ext_getElem
    · simp [hde]
    · intro i h1 h2
      simp [hde]
  refine ⟨he, ⟨d'.toList.map (fun x => x.val), ?_, ?_, ?_⟩, Spare.put w b q d' os encF⟩
  · have hR' : Row (Sort.ahead w q) b 3 (((List.range (m + 1)).map fun i : Nat => Value.int .i64 (i : Int)) ++ []) := by rw [List.append_nil]; exact hr
    have h3 := (hR'.put (ds := d'.toList) encF (by simp [hd'])).grow os
    rw [List.append_nil] at h3
    rw [List.map_map]
    exact h3
  · rw [← hval]
    exact p3.map _
  · rw [List.map_map, List.pairwise_map, List.pairwise_iff_getElem]
    intro i j hi hj hij
    have := hs i j (Nat.zero_le _) hij (by simpa [hd'] using hj)
    unfold ltOf cfz at this
    rw [ltCmp] at this
    rw [getElem!_pos d' i (by simpa using hi), getElem!_pos d' j (by simpa using hj)] at this
    simp [fz] at this
    simpa using this

set_option maxRecDepth 100000 in
set_option maxHeartbeats 4000000 in
theorem indices_any (m bx g cap : Nat) (zs : List Int) (rest : List Value) (hz : Hid (zs.length = m + 1)) (hm : m ≤ 1024) (w : World) (hb : Hid (Row w bx 22 [.slice (some ⟨g, 0, none⟩) (m + 1) cap])) (hg : Hid (Row w g 3 (zs.map (Value.int .i64) ++ rest))) :
    Calls Yba.prog 14 #[.int .i64 ((m + 1 : Nat) : Int), .func (.func 15) #[] #[.pointer (some ⟨bx, 0, none⟩)]] w fun e w' => ∃ b, e = .returned (.slice (some ⟨b, 0, none⟩) (m + 1) (m + 1)) ∧ w.heap.size ≤ b ∧
      (∃ os : List Nat, Row w' b 3 (os.map fun i : Nat => Value.int .i64 (i : Int)) ∧ os.Perm (List.range (m + 1)) ∧ (os.map fun i => zs.getD i 0).Pairwise (· ≤ ·)) ∧ Spare Non w w' := by
  generalize hn : m + 1 = n at hz hb
  have HN : Hid (m + 1 = n) := hn
  have hn2 : n ≤ 1025 := by omega
  clear hn
  go_enter Yba.func14, Yba.ntmps14
  go_wp2_with (first
    | (at_make; refine L_make _ rfl _ _ 22 rfl 3 _ _ Yba.underlying22 info3 rfl _ _ _ _ n n rfl rfl rfl rfl (by omega) (by omega) (by omega) ?_; intro w1 b hb1 R1 S1))
  go_loopw [11] (fun ix wk => ∃ k : Nat, k ≤ n ∧ ix = .int .i64 k ∧ Hid (Row wk b 3 (((List.range k).map fun i : Nat => Value.int .i64 (i : Int)) ++ List.replicate (n - k) (.int .i64 0))) ∧ Hid (Spare Non w wk)) (fun ix _ => n - (intOf ix).toNat)
  case atStart => exact ⟨0, Nat.zero_le _, by go_num, R1, S1⟩
  case round =>
    obtain ⟨k, hk0, rfl, HR, HS⟩ := hrel
    by_cases hk : k < n
    · have ck : wr.cell? ⟨b, k, none⟩ = some (.int .i64 0) := HR.out.cell (at_rep _ k n _ (by simp) hk)
      have fk := HR.out.frozen k
      go_wp2
      go_roundw
      case rel =>
        have h := HR.out.set k (.int .i64 (k : Int))
        rw [set_rep _ k n _ _ (by simp) hk] at h
        refine ⟨k + 1, by omega, by go_num, ?_, HS.out.new (Spare.setCell wr ⟨b, k, none⟩ _) (by have := hb1.out; simp; omega)⟩
        show Row _ _ _ _
        rw [List.range_succ, List.map_append]
        exact h
      case measure => simp [intOf]; omega
    · obtain rfl : k = n := by omega
      have hr : Row wr b 3 ((List.range k).map fun i : Nat => Value.int .i64 (i : Int)) := by have := HR.out; rw [Nat.sub_self] at this; simpa using this
      have hbb := hb1.out
      have lb := hb.out.lt
      have lg := hg.out.lt
      have h21 : Calls Yba.prog 21 #[.slice (some ⟨b, 0, none⟩) k k, .func (.func 15) #[] #[.pointer (some ⟨bx, 0, none⟩)]] wr fun e w' => e = .returned (.tuple #[]) ∧
          (∃ os : List Nat, Row w' b 3 (os.map fun i : Nat => Value.int .i64 (i : Int)) ∧ os.Perm (List.range k) ∧ (os.map fun i => zs.getD i 0).Pairwise (· ≤ ·)) ∧ Spare (One b) wr w' := by
        have e : m + 1 = k := HN
        subst e
        exact sortFunc_at m bx g cap b zs rest hz.out hm wr (hb.out.spare HS.out id) (hg.out.spare HS.out id) hr (by omega) (by omega)
      clear hbb lb lg hr
      go_wp2_with (first
        | (go_at_call 21; refine h21.mono ?_; clear h21; rintro e w2 ⟨rfl, ⟨os, R2⟩, S2⟩))
      go_ret
      exact ⟨b, rfl, by have := hb1.out; omega, ⟨os, R2⟩, HS.out.new S2 (by have := hb1.out; omega)⟩
end Go.Proofs.Ybulkcwdy
