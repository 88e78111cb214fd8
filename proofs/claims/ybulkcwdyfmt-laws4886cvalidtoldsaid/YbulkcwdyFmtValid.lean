/-
  LawS4886CValid: the walk.
-/
import Derived.Test.YbulkcwdyFmtLoop
import Derived.Test.YbulkcwdyFmtCf
namespace Go.Proofs.YbulkcwdyFmt
open Go.RowKit Go.Extern.Stop Go.Stop Go.Extern

theorem info3 : (Ybaf.prog.info? 3).map (fun i => (i.zero, i.size, i.bytes)) = some (some (.int .i64 0), 1, 8) := by kernel_rfl
theorem mk22 (n : Nat) (hn : n ≤ 1024) : ∃ P : Array Value, P.size = n ∧ ∀ w, (Instr.makeSlice 22 (.int .i64 (n : Int)) (.int .i64 (n : Int))).run Ybaf.prog w = .ok (.slice (some ⟨w.heap.size, 0, none⟩) n n) (w.alloc (.cells P 3)) := by
  obtain ⟨i, hi, h0, h1, h2⟩ := info_parts info3
  have h := fun w => run_make (P := Ybaf.prog) w 22 3 i (.int .i64 0) Ybaf.underlying22 hi h0 .i64 .i64 (n : Int) (n : Int) (by omega) (Int.le_refl _) (by rw [h2]; omega) (by omega)
  refine ⟨_, ?_, fun w => by simpa using h w⟩
  rw [size_madeCells, h1]; simp

theorem low16 (r : Int) (h0 : 0 ≤ r) (h1 : r ≤ 4294967295) : bits .and .u32 r 65535 = r % 65536 := by
  have h := u32_and r 65535 h0 (by omega) (by omega) (by omega)
  rw [h, show ((65535 : Int).toNat) = 2 ^ 16 - 1 from rfl, Nat.and_two_pow_sub_one_eq_mod]
  omega

/-- The phases and the counters that the law makes of its raw numbers. -/
def phs (rz : List Int) (P : Int) (n : Nat) : List Int := (List.range n).map fun j => rz.getD j 0 % 65536 % P
def cts (rz : List Int) (L : Int) (n : Nat) : List Int := (List.range n).map fun j => rz.getD j 0 / 65536 % L
theorem phs_get (rz : List Int) (P : Int) (n j : Nat) (h : j < n) : (phs rz P n).getD j 0 = rz.getD j 0 % 65536 % P := by simp [phs, h]
theorem cts_get (rz : List Int) (L : Int) (n j : Nat) (h : j < n) : (cts rz L n).getD j 0 = rz.getD j 0 / 65536 % L := by simp [cts, h]
theorem all_fit (rz : List Int) (P L : Int) (n : Nat) (hP : 1 ≤ P) (hL : 1 ≤ L) : AllFit P L (phs rz P n) (cts rz L n) n := by
  intro j hj
  rw [phs_get _ _ _ _ hj, cts_get _ _ _ _ hj]
  exact decide_eq_true ⟨Int.emod_nonneg _ (by omega), Int.emod_lt_of_pos _ (by omega), Int.emod_nonneg _ (by omega), Int.emod_lt_of_pos _ (by omega)⟩

theorem set_next {P : Array Value} {k : Nat} {f : Nat → Value} {v : Value} (hk : k < P.size) (hv : v = f k) (h : ∀ j, j < k → P[j]? = some (f j)) : ∀ j, j < k + 1 → (P.setIfInBounds k v)[j]? = some (f j) := by
  intro j hj
  by_cases e : j = k
  · subst e; simp [hk, hv]
  · rw [Array.getElem?_setIfInBounds_ne (by omega)]; exact h j (by omega)

set_option maxRecDepth 100000 in
set_option maxHeartbeats 4000000 in
theorem valid_main (F : Interp) (br or cr N : Nat) (rz : List Int) (proc pb cb : Int) (w : World) (hF : F.answers w.tape) (hN1 : 1 ≤ N) (hN : N ≤ 1024) (hq0 : 0 ≤ proc) (hq : proc ≤ 255) (hp0 : 0 ≤ pb) (hp : pb ≤ 255) (hc0 : 0 ≤ cb) (hc : cb ≤ 255)
    (hbr : br < w.heap.size) (hrz : ∀ j, j < N → w.cell? ⟨br, or + j, none⟩ = some (.int .u32 (rz.getD j 0))) (hrr : ∀ j, j < N → 0 ≤ rz.getD j 0 ∧ rz.getD j 0 ≤ 4294967295) :
    Calls Ybaf.prog 4 #[.slice (some ⟨br, or, none⟩) N cr, .int .u8 proc, .int .u8 pb, .int .u8 cb] w fun e w' => e = .returned (.bool true) ∧ Below w.heap.size w w' := by
  have HRZ := hide hrz
  have HRR := hide hrr
  clear hrz hrr
  have hN0 : ((N : Int) == 0) = false := by simp; omega
  obtain ⟨A0, hA0, hmk⟩ := mk22 N hN
  go_enter Ybaf.func4, Ybaf.ntmps4
  go_wp2_with fail
  refine (newStamp F N (1 + pb % 16) (1 + cb % 16) _ (by exact hF) (by omega) (by omega) (by omega) (by omega) (by omega) (by omega)).mono ?_
  rintro e w1 ⟨⟨xb, yb, a, rfl⟩, hb⟩
  have hP0 : 1 ≤ 1 + pb % 16 := by omega
  have hP : 1 + pb % 16 ≤ 16 := by omega
  have hL0 : 1 ≤ 1 + cb % 16 := by omega
  have hL : 1 + cb % 16 ≤ 16 := by omega
  generalize 1 + pb % 16 = P at hP0 hP
  generalize 1 + cb % 16 = L at hL0 hL
  have hF1 := answers_below hF hb
  have hbr1 : br < w1.heap.size := by have := hb.size; omega
  have hbr2 : br < w1.heap.size + 1 := by omega
  have hbr3 : br < w1.heap.size + 1 + 1 := by omega
  have HRZ1 : Hid (∀ j, j < N → w1.cell? ⟨br, or + j, none⟩ = some (.int .u32 (rz.getD j 0))) := fun j hj => (hb.cell (p := ⟨br, or + j, none⟩) hbr).trans (HRZ.out j hj)
  go_wp2
  go_loopw [16] (fun i wr => ∃ k : Nat, k ≤ N ∧ i = .int .i64 k ∧ ∃ A C : Array Value, A.size = N ∧ C.size = N ∧ Hid (∀ j, j < k → A[j]? = some (.int .i64 ((phs rz P N).getD j 0))) ∧ Hid (∀ j, j < k → C[j]? = some (.int .i64 ((cts rz L N).getD j 0))) ∧ wr = ((w1.alloc (.cells #[.int .i64 N, .int .i64 P, .int .i64 L, .int .i64 xb, .int .i64 yb, .pointer a] 25)).alloc (.cells A 3)).alloc (.cells C 3)) (fun i _ => N - (intOf i).toNat)
  case atStart => exact ⟨0, Nat.zero_le _, rfl, A0, A0, hA0, hA0, fun j hj => absurd hj (Nat.not_lt_zero _), fun j hj => absurd hj (Nat.not_lt_zero _), rfl⟩
  case round =>
    clear hmk hA0
    obtain ⟨k, hk, rfl, A, C, hA, hC, HA, HC, rfl⟩ := hrel
    by_cases hkn : k < N
    · have c1 := HRZ1.out k hkn
      have r1 := HRR.out k hkn
      have e1 := phs_get rz P N k hkn
      have e2 := cts_get rz L N k hkn
      generalize rz.getD k 0 = r at c1 r1 e1 e2
      have E1 := hide e1
      have E2 := hide e2
      clear e1 e2
      have hlow := low16 r r1.1 r1.2
      have hAk : k < A.size := by omega
      have hCk : k < C.size := by omega
      obtain ⟨r10, r11⟩ := r1
      go_wp2
      go_roundw
      case rel =>
        go_light
        exact ⟨k + 1, by omega, by go_num, _, _, by simp [hA], by simp [hC], set_next (f := fun j => .int .i64 ((phs rz P N).getD j 0)) hAk (by simp only [E1.out]) HA.out, set_next (f := fun j => .int .i64 ((cts rz L N).getD j 0)) hCk (by simp only [E2.out]) HC.out, rfl⟩
      case measure => simp [intOf]; omega
    · have ekn : N = k := by omega
      subst ekn
      go_wp2_with fail
      have hA1 : ∀ j, j < N → (((w1.alloc (.cells #[.int .i64 N, .int .i64 P, .int .i64 L, .int .i64 xb, .int .i64 yb, .pointer a] 25)).alloc (.cells A 3)).alloc (.cells C 3)).cell? ⟨w1.heap.size + 1, 0 + j, none⟩ = some (.int .i64 ((phs rz P N).getD j 0)) := by
        intro j hj
        rw [Nat.zero_add, World.cell?_alloc_past _ _ _ (by simp), World.cell?_alloc_at _ _ _ _ (by simp)]
        exact HA.out j hj
      have hC1 : ∀ j, j < N → (((w1.alloc (.cells #[.int .i64 N, .int .i64 P, .int .i64 L, .int .i64 xb, .int .i64 yb, .pointer a] 25)).alloc (.cells A 3)).alloc (.cells C 3)).cell? ⟨w1.heap.size + 1 + 1, 0 + j, none⟩ = some (.int .i64 ((cts rz L N).getD j 0)) := by
        intro j hj
        rw [Nat.zero_add, World.cell?_alloc_at _ _ _ _ (by simp)]
        exact HC.out j hj
      have hrp : ∀ j, j < N → -9223372036854775808 ≤ (phs rz P N).getD j 0 ∧ (phs rz P N).getD j 0 ≤ 9223372036854775807 := by
        intro j hj
        rw [phs_get _ _ _ _ hj]
        have h1 := Int.emod_nonneg (rz.getD j 0 % 65536) (show P ≠ 0 by omega)
        have h2 := Int.emod_lt_of_pos (rz.getD j 0 % 65536) (show 0 < P by omega)
        omega
      have hrc : ∀ j, j < N → -9223372036854775808 ≤ (cts rz L N).getD j 0 ∧ (cts rz L N).getD j 0 ≤ 9223372036854775807 := by
        intro j hj
        rw [cts_get _ _ _ _ hj]
        have h1 := Int.emod_nonneg (rz.getD j 0 / 65536) (show L ≠ 0 by omega)
        have h2 := Int.emod_lt_of_pos (rz.getD j 0 / 65536) (show 0 < L by omega)
        omega
      have hq1 : 0 ≤ proc % (N : Int) := Int.emod_nonneg _ (by omega)
      have hq2 : proc % (N : Int) < N := Int.emod_lt_of_pos _ (by omega)
      refine (stamp_main F N P L xb yb _ (proc % N) (w1.heap.size + 1) 0 N (w1.heap.size + 1 + 1) 0 N (phs rz P N) (cts rz L N) _ (by exact hF1) hN1 (by omega) hP0 hP hL0 hL hq1 hq2 (by simp) (by simp) hA1 hC1 hrp hrc).mono ?_
      rintro e w2 ⟨hend, hb2⟩
      rcases hend with ⟨_, E, hE1, hE2, rfl, hcells⟩ | ⟨h, _⟩
      rotate_left
      · exact absurd (all_fit rz P L N hP0 hL0) h
      have HCE := hide hcells
      have hsz2 := hb2.size
      simp only [World.size_alloc] at hsz2
      have hbel : Below w.heap.size w w2 := ((((hb.alloc hb.size _).alloc (by have := hb.size; simp; omega) _).alloc (by have := hb.size; simp; omega) _)).trans (hb2.mono (by have := hb.size; simp; omega))
      have HBEL := hide hbel
      have HZP2 : Hid (∀ j, j < N → w2.cell? ⟨w1.heap.size + 1, j, none⟩ = some (.int .i64 ((phs rz P N).getD j 0))) := fun j hj => (hb2.cell (p := ⟨w1.heap.size + 1, j, none⟩) (by simp)).trans (by simpa using hA1 j hj)
      have HZC2 : Hid (∀ j, j < N → w2.cell? ⟨w1.heap.size + 1 + 1, j, none⟩ = some (.int .i64 ((cts rz L N).getD j 0))) := fun j hj => (hb2.cell (p := ⟨w1.heap.size + 1 + 1, j, none⟩) (by simp)).trans (by simpa using hC1 j hj)
      have HRZ2 : Hid (∀ j, j < N → w2.cell? ⟨br, or + j, none⟩ = some (.int .u32 (rz.getD j 0))) := fun j hj => (hbel.cell (p := ⟨br, or + j, none⟩) hbr).trans (HRZ.out j hj)
      have hbr4 : br < w2.heap.size := by omega
      have hbr5 : br < w2.heap.size + 1 := by omega
      have hz1 : w1.heap.size + 1 < w2.heap.size := by omega
      have hz2 : w1.heap.size + 1 + 1 < w2.heap.size := by omega
      have hz3 : w1.heap.size + 1 < w2.heap.size + 1 := by omega
      have hz4 : w1.heap.size + 1 + 1 < w2.heap.size + 1 := by omega
      have hE3 : E < w2.heap.size + 1 := by omega
      clear hbel hA1 hC1 hcells hrp hrc
      generalize proc % (N : Int) = pp at hq1 hq2
      go_wp2_with (go_at_call 8; refine (procs_any pp _ N N _).mono ?_; rintro e w' ⟨rfl, rfl⟩)
      go_loopw [19] (fun i wr => ∃ k q : Nat, k ≤ N ∧ i = .int .i64 k ∧ wr = ((w2.alloc (.cells #[.int .i64 pp, .slice (some ⟨E, 0, none⟩) N N, .pointer none, .bool false] 31)).alloc (.cells #[.int .i64 pp, .slice (some ⟨E, 0, none⟩) N N, .pointer none, .bool false] 31)).drewN q) (fun i _ => N - (intOf i).toNat)
      case atStart => exact ⟨0, 0, Nat.zero_le _, rfl, rfl⟩
      case round =>
        obtain ⟨k, q, hk, rfl, rfl⟩ := hrel
        by_cases hkn : k < N
        · have ca := HZP2.out k hkn
          have cb' := HZC2.out k hkn
          have ce := (HCE.out k hkn).1
          have cf := (HCE.out k hkn).2
          have cr' := HRZ2.out k hkn
          have r1 := HRR.out k hkn
          rw [phs_get _ _ _ _ hkn] at ca ce
          rw [cts_get _ _ _ _ hkn] at cb' cf
          generalize rz.getD k 0 = r at ca cb' ce cf cr' r1
          obtain ⟨r10, r11⟩ := r1
          have hlow := low16 r r10 r11
          have m1 := Int.emod_nonneg (r % 65536) (show P ≠ 0 by omega)
          have m2 := Int.emod_lt_of_pos (r % 65536) (show 0 < P by omega)
          have m3 := Int.emod_nonneg (r / 65536) (show L ≠ 0 by omega)
          have m4 := Int.emod_lt_of_pos (r / 65536) (show 0 < L by omega)
          go_wp2
          go_quiet (fail)
          go_wp2
          go_quiet (fail)
          go_wp2
          go_roundw
          case rel => exact ⟨k + 1, _, by omega, by go_num, rfl⟩
          case measure => simp [intOf]; omega
        · go_wp2
          go_ret
          exact ⟨rfl, below_draws ((HBEL.out.alloc HBEL.out.size _).alloc (by have := HBEL.out.size; simp; omega) _) _⟩

end Go.Proofs.YbulkcwdyFmt
