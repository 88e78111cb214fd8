/-
  LawS4886CRefuse: the walks.
-/
import Derived.Test.YbulkcwdyFmtLoop
import Derived.Test.YbulkcwdyFmtCf
namespace Go.Proofs.YbulkcwdyFmt
open Go.RowKit Go.Extern.Stop Go.Stop Go.Extern

theorem nil28 (w : World) : (binOp .eql 28 (.slice none 0 0) (.slice none 0 0)).run Ybaf.prog w = .ok (.bool true) w := by kernel_rfl
attribute [local go_sem] nil28
theorem below_end {w w1 w2 : World} {o o2 : Obj} (hb : Below w.heap.size w w1) (hb2 : Below (w1.alloc o).heap.size (w1.alloc o) w2) : Below w.heap.size w (w2.alloc o2) := by
  have h1 := hb.size
  have h2 := hb2.size
  simp at h2
  exact ((hb.alloc h1 o).trans (hb2.mono (by simp; omega))).alloc (by omega) _

set_option maxRecDepth 100000 in
set_option maxHeartbeats 4000000 in
/-- A process that is none. -/
theorem refuse_proc (F : Interp) (n pb cb proc : Int) (a1 a2 : Option Addr) (n1 c1 n2 c2 : Nat) (w : World) (hF : F.answers w.tape) (hn0 : 0 ≤ n) (hn : n ≤ 255) (hp0 : 0 ≤ pb) (hp : pb ≤ 255) (hc0 : 0 ≤ cb) (hc : cb ≤ 255)
    (hl1 : n1 ≤ 1024) (hl2 : n2 ≤ 1024) (h : proc < 0 ∨ 1 + n % 8 ≤ proc) :
    Calls Ybaf.prog 3 #[.int .u8 n, .int .u8 pb, .int .u8 cb, .int .i64 proc, .slice a1 n1 c1, .slice a2 n2 c2] w fun e w' => e = .returned (.bool true) ∧ Below w.heap.size w w' := by
  have hg : (decide (0 ≤ proc) = false) ∨ (decide (0 ≤ proc) = true ∧ decide (proc < 1 + n % 8) = false) := by
    rcases h with h | h
    · left; simpa using h
    · by_cases e : 0 ≤ proc
      · right; simp [e]; omega
      · left; simpa using e
  have HH := hide h
  clear h
  rcases hg with hg | ⟨hg, hg2⟩
  all_goals
    go_enter Ybaf.func3, Ybaf.ntmps3
    go_wp2_with fail
    refine (cf_any F n pb cb _ (by exact hF) hn0 hn hp0 hp hc0 hc).mono ?_
    rintro e w1 ⟨⟨xb, yb, a, rfl⟩, hb⟩
    have hF1 := answers_below hF hb
    go_wp2_with fail
    refine (stamp_proc F _ _ _ xb yb _ proc _ _ _ (by exact hF1) (by omega) (by omega) HH.out).mono ?_
    rintro e w2 ⟨⟨b, rfl⟩, hb2⟩
    go_wp2
    go_ret
    exact ⟨rfl, below_end hb hb2⟩

set_option maxRecDepth 100000 in
set_option maxHeartbeats 4000000 in
/-- A slice of another length. -/
theorem refuse_len (F : Interp) (n pb cb proc : Int) (a1 a2 : Option Addr) (n1 c1 n2 c2 : Nat) (w : World) (hF : F.answers w.tape) (hn0 : 0 ≤ n) (hn : n ≤ 255) (hp0 : 0 ≤ pb) (hp : pb ≤ 255) (hc0 : 0 ≤ cb) (hc : cb ≤ 255)
    (hl1 : n1 ≤ 1024) (hl2 : n2 ≤ 1024) (h0 : 0 ≤ proc) (h1 : proc < 1 + n % 8) (h : ¬ ((n1 : Int) = 1 + n % 8 ∧ (n2 : Int) = 1 + n % 8)) :
    Calls Ybaf.prog 3 #[.int .u8 n, .int .u8 pb, .int .u8 cb, .int .i64 proc, .slice a1 n1 c1, .slice a2 n2 c2] w fun e w' => e = .returned (.bool true) ∧ Below w.heap.size w w' := by
  have hg : ((n1 : Int) == 1 + n % 8) = false ∨ (((n1 : Int) == 1 + n % 8) = true ∧ ((n2 : Int) == 1 + n % 8) = false) := by
    by_cases e : (n1 : Int) = 1 + n % 8
    · right
      have : ¬ (n2 : Int) = 1 + n % 8 := fun e2 => h ⟨e, e2⟩
      exact ⟨by simpa using e, by simpa using this⟩
    · left; simpa using e
  have HH := hide h
  clear h
  rcases hg with hg | ⟨hg, hg2⟩
  all_goals
    go_enter Ybaf.func3, Ybaf.ntmps3
    go_wp2_with fail
    refine (cf_any F n pb cb _ (by exact hF) hn0 hn hp0 hp hc0 hc).mono ?_
    rintro e w1 ⟨⟨xb, yb, a, rfl⟩, hb⟩
    have hF1 := answers_below hF hb
    go_wp2_with fail
    refine (stamp_len F _ _ _ xb yb _ proc _ _ _ _ _ _ _ (by exact hF1) h0 h1 HH.out).mono ?_
    rintro e w2 ⟨⟨b, rfl⟩, hb2⟩
    go_wp2
    go_ret
    exact ⟨rfl, below_end hb hb2⟩

theorem fit_no {P L y x : Int} (h : y < 0 ∨ P ≤ y ∨ x < 0) : true = !fitB P L y x := by
  rw [show fitB P L y x = false from decide_eq_false (by omega)]; rfl
theorem fit_no' {P L y x : Int} (h : L ≤ x) (_h : 0 ≤ x) : true = !fitB P L y x := by
  rw [show fitB P L y x = false from decide_eq_false (by omega)]; rfl
theorem fit_yes {P L y x : Int} (h : 0 ≤ y ∧ y < P) (h' : 0 ≤ x ∧ x < L) : false = !fitB P L y x := by
  rw [show fitB P L y x = true from decide_eq_true (by omega)]; rfl
theorem fit_open {P L y x : Int} (h : fitB P L y x = true) : 0 ≤ y ∧ y < P ∧ 0 ≤ x ∧ x < L := of_decide_eq_true h

set_option maxRecDepth 100000 in
set_option maxHeartbeats 4000000 in
/-- A process of the format, a value a process in both slices. -/
theorem refuse_main (F : Interp) (n pb cb proc : Int) (N : Nat) (bp op c1 bc oc c2 : Nat) (zp zc : List Int) (w : World) (hF : F.answers w.tape) (hn0 : 0 ≤ n) (hn : n ≤ 255) (hp0 : 0 ≤ pb) (hp : pb ≤ 255) (hc0 : 0 ≤ cb) (hc : cb ≤ 255)
    (hN : (N : Int) = 1 + n % 8) (h0 : 0 ≤ proc) (h1 : proc < N) (hbp : bp < w.heap.size) (hbc : bc < w.heap.size)
    (hzp : ∀ j, j < N → w.cell? ⟨bp, op + j, none⟩ = some (.int .i64 (zp.getD j 0))) (hzc : ∀ j, j < N → w.cell? ⟨bc, oc + j, none⟩ = some (.int .i64 (zc.getD j 0)))
    (hrp : ∀ j, j < N → -9223372036854775808 ≤ zp.getD j 0 ∧ zp.getD j 0 ≤ 9223372036854775807) (hrc : ∀ j, j < N → -9223372036854775808 ≤ zc.getD j 0 ∧ zc.getD j 0 ≤ 9223372036854775807) :
    Calls Ybaf.prog 3 #[.int .u8 n, .int .u8 pb, .int .u8 cb, .int .i64 proc, .slice (some ⟨bp, op, none⟩) N c1, .slice (some ⟨bc, oc, none⟩) N c2] w fun e w' => e = .returned (.bool true) ∧ Below w.heap.size w w' := by
  have HZP := hide hzp
  have HZC := hide hzc
  have HRP := hide hrp
  have HRC := hide hrc
  have HN := hide hN
  have hN1 : 1 ≤ N := by omega
  have hN8 : N ≤ 8 := by omega
  clear hzp hzc hrp hrc hN
  go_enter Ybaf.func3, Ybaf.ntmps3
  go_wp2_with fail
  refine (cf_any F n pb cb _ (by exact hF) hn0 hn hp0 hp hc0 hc).mono ?_
  rintro e w1 ⟨⟨xb, yb, a, rfl⟩, hb⟩
  rw [← HN.out]
  have hP0 : 1 ≤ 1 + pb % 16 := by omega
  have hP : 1 + pb % 16 ≤ 16 := by omega
  have hL0 : 1 ≤ 1 + cb % 16 := by omega
  have hL : 1 + cb % 16 ≤ 16 := by omega
  generalize 1 + pb % 16 = P at hP0 hP
  generalize 1 + cb % 16 = L at hL0 hL
  have hF1 := answers_below hF hb
  have hbp1 : bp < w1.heap.size := by have := hb.size; omega
  have hbc1 : bc < w1.heap.size := by have := hb.size; omega
  have HZP1 : Hid (∀ j, j < N → w1.cell? ⟨bp, op + j, none⟩ = some (.int .i64 (zp.getD j 0))) := fun j hj => (hb.cell (p := ⟨bp, op + j, none⟩) hbp).trans (HZP.out j hj)
  have HZC1 : Hid (∀ j, j < N → w1.cell? ⟨bc, oc + j, none⟩ = some (.int .i64 (zc.getD j 0))) := fun j hj => (hb.cell (p := ⟨bc, oc + j, none⟩) hbc).trans (HZC.out j hj)
  go_wp2
  go_loopg [18, 19] N (fun g s i wr => ∃ k : Nat, k ≤ N ∧ N - k ≤ g ∧ s = .bool true ∧ i = .int .i64 k ∧ Hid (AllFit P L zp zc k) ∧ wr = w1.alloc (.cells #[.int .i64 N, .int .i64 P, .int .i64 L, .int .i64 xb, .int .i64 yb, .pointer a] 25))
  case atStart => exact ⟨0, Nat.zero_le _, by omega, rfl, rfl, fun j hj => absurd hj (Nat.not_lt_zero _), rfl⟩
  case round =>
    obtain ⟨k, hk, hg, rfl, rfl, HA, rfl⟩ := hrel
    by_cases hlt : k < N
    · have cp1 := HZP1.out k hlt
      have cc1 := HZC1.out k hlt
      generalize hy : zp.getD k 0 = y at cp1
      generalize hx : zc.getD k 0 = x at cc1
      have HY := hide hy
      have HX := hide hx
      clear hy hx
      go_upto_region 11 with fail
      go_cut [95] from 63 to 95 (fun s wx => s = .bool (!fitB P L y x) ∧ wx = w1.alloc (.cells #[.int .i64 N, .int .i64 P, .int .i64 L, .int .i64 xb, .int .i64 yb, .pointer a] 25))
      case first =>
        by_cases f0 : y < 0
        · go_wp2
          go_meet
          case rel => exact ⟨congrArg Value.bool (fit_no (by omega)), rfl⟩
        by_cases f1 : P ≤ y
        · go_wp2
          go_meet
          case rel => exact ⟨congrArg Value.bool (fit_no (by omega)), rfl⟩
        by_cases f2 : x < 0
        · go_wp2
          go_meet
          case rel => exact ⟨congrArg Value.bool (fit_no (by omega)), rfl⟩
        by_cases f3 : L ≤ x
        · go_wp2
          go_meet
          case rel => exact ⟨congrArg Value.bool (fit_no' (by omega) (by omega)), rfl⟩
        · go_wp2
          go_meet
          case rel => exact ⟨congrArg Value.bool (fit_yes (by omega) (by omega)), rfl⟩
      case rest =>
        obtain ⟨rfl, rfl⟩ := hcut
        cases hfb : fitB P L y x with
        | true =>
          have HFB := hide hfb
          clear hfb
          go_wp2
          go_roundg (N - (k + 1))
          case measure => omega
          case rel => exact ⟨k + 1, by omega, by omega, rfl, by go_num, allFit_next HA.out (by rw [HY.out, HX.out]; exact HFB.out), rfl⟩
        | false =>
          have HFB := hide hfb
          clear hfb
          go_wp2_with fail
          refine (stamp_main F N P L xb yb _ proc bp op c1 bc oc c2 zp zc _ (by exact hF1) hN1 (by omega) hP0 hP hL0 hL h0 h1 (by simp; omega) (by simp; omega) (fun j hj => (World.cell?_alloc_past _ _ _ hbp1).trans (HZP1.out j hj)) (fun j hj => (World.cell?_alloc_past _ _ _ hbc1).trans (HZC1.out j hj)) HRP.out HRC.out).mono ?_
          rintro e w2 ⟨hend, hb2⟩
          rcases hend with ⟨h, _⟩ | ⟨_, b, rfl⟩
          · exact absurd h (not_allFit hlt (by rw [HY.out, HX.out]; exact HFB.out))
          · go_wp2
            go_ret
            exact ⟨rfl, below_end hb hb2⟩
    · have ekn : N = k := by omega
      subst ekn
      go_wp2_with fail
      refine (stamp_main F N P L xb yb _ proc bp op c1 bc oc c2 zp zc _ (by exact hF1) hN1 (by omega) hP0 hP hL0 hL h0 h1 (by simp; omega) (by simp; omega) (fun j hj => (World.cell?_alloc_past _ _ _ hbp1).trans (HZP1.out j hj)) (fun j hj => (World.cell?_alloc_past _ _ _ hbc1).trans (HZC1.out j hj)) HRP.out HRC.out).mono ?_
      rintro e w2 ⟨hend, hb2⟩
      rcases hend with ⟨_, E, hE1, hE2, rfl, hcells⟩ | ⟨h, _⟩
      rotate_left
      · exact absurd HA.out h
      have HCE := hide hcells
      clear hcells
      have hbel : Below w.heap.size w (w2.alloc (.cells #[.int .i64 proc, .slice (some ⟨E, 0, none⟩) N N, .pointer none, .bool false] 31)) := below_end hb hb2
      have HBEL := hide hbel
      have hbp2 : bp < w2.heap.size := by have := hb2.size; simp at this; omega
      have hbc2 : bc < w2.heap.size := by have := hb2.size; simp at this; omega
      have HZP2 : Hid (∀ j, j < N → w2.cell? ⟨bp, op + j, none⟩ = some (.int .i64 (zp.getD j 0))) := fun j hj => (hb2.cell (p := ⟨bp, op + j, none⟩) (by simp; omega)).trans ((World.cell?_alloc_past _ _ _ hbp1).trans (HZP1.out j hj))
      have HZC2 : Hid (∀ j, j < N → w2.cell? ⟨bc, oc + j, none⟩ = some (.int .i64 (zc.getD j 0))) := fun j hj => (hb2.cell (p := ⟨bc, oc + j, none⟩) (by simp; omega)).trans ((World.cell?_alloc_past _ _ _ hbc1).trans (HZC1.out j hj))
      clear hbel
      go_wp2
      go_loopw [22] (fun i wr => ∃ k q : Nat, k ≤ N ∧ i = .int .i64 k ∧ wr = (w2.alloc (.cells #[.int .i64 proc, .slice (some ⟨E, 0, none⟩) N N, .pointer none, .bool false] 31)).drewN q) (fun i _ => N - (intOf i).toNat)
      case atStart => exact ⟨0, 0, Nat.zero_le _, rfl, rfl⟩
      case round =>
        obtain ⟨k, q, hk, rfl, rfl⟩ := hrel
        by_cases hkn : k < N
        · have ca := HZP2.out k hkn
          have cb := HZC2.out k hkn
          have ce := (HCE.out k hkn).1
          have cf := (HCE.out k hkn).2
          have hfk := HA.out k hkn
          generalize zp.getD k 0 = y at ca ce hfk
          generalize zc.getD k 0 = x at cb cf hfk
          obtain ⟨r0, r1, r2, r3⟩ := fit_open hfk
          clear hfk
          go_wp2
          go_quiet (fail)
          go_wp2
          go_roundw
          case rel => exact ⟨k + 1, _, by omega, by go_num, rfl⟩
          case measure => simp [intOf]; omega
        · go_wp2
          go_ret
          exact ⟨rfl, below_draws HBEL.out _⟩

end Go.Proofs.YbulkcwdyFmt
