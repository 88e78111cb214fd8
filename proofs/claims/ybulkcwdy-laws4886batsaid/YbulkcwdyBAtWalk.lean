/-
  LawS4886BAt: the walk.
-/
import Derived.Test.YbulkcwdyBAtPlain
import Derived.Deep.QuietTactic
import Derived.BigQuiet
import Derived.Deep.Cut
import Derived.Deep.DeepCutAuto
import Derived.Deep.Light
import Derived.Deep.Draws
namespace Go.Proofs.Ybulkcwdy.BAt
open Go.RowKit

theorem hide {p : Prop} (h : p) : Hid p := h
theorem info3 : (Yba.prog.info? 3).map (fun i => (i.zero, i.size, i.bytes)) = some (some (.int .i64 0), 1, 8) := by kernel_rfl
theorem info47 : (Yba.prog.info? 47).map (fun i => (i.zero, i.size, i.bytes)) = some (some (.int .u64 0), 1, 8) := by kernel_rfl

/-- 'make([]int, n)' -/
theorem mk22 (n : Nat) (hn : n ≤ 1024) : ∃ P : Array Value, P.size = n ∧ ∀ w, (Instr.makeSlice 22 (.int .i64 (n : Int)) (.int .i64 (n : Int))).run Yba.prog w = .ok (.slice (some ⟨w.heap.size, 0, none⟩) n n) (w.alloc (.cells P 3)) := by
  obtain ⟨i, hi, h0, h1, h2⟩ := info_parts info3
  have h := fun w => run_make (P := Yba.prog) w 22 3 i (.int .i64 0) Yba.underlying22 hi h0 .i64 .i64 (n : Int) (n : Int) (by omega) (Int.le_refl _) (by rw [h2]; omega) (by omega)
  refine ⟨_, ?_, fun w => by simpa using h w⟩
  rw [size_madeCells, h1]; simp
theorem mk37 (n : Nat) (hn : n ≤ 1024) : ∃ P : Array Value, P.size = n ∧ ∀ w, (Instr.makeSlice 37 (.int .i64 (n : Int)) (.int .i64 (n : Int))).run Yba.prog w = .ok (.slice (some ⟨w.heap.size, 0, none⟩) n n) (w.alloc (.cells P 47)) := by
  obtain ⟨i, hi, h0, h1, h2⟩ := info_parts info47
  have h := fun w => run_make (P := Yba.prog) w 37 47 i (.int .u64 0) Yba.underlying37 hi h0 .i64 .i64 (n : Int) (n : Int) (by omega) (Int.le_refl _) (by rw [h2]; omega) (by omega)
  refine ⟨_, ?_, fun w => by simpa using h w⟩
  rw [size_madeCells, h1]; simp

theorem set_next {P : Array Value} {k : Nat} {f : Nat → Value} {v : Value} (hk : k < P.size) (hv : v = f k) (h : ∀ j, j < k → P[j]? = some (f j)) : ∀ j, j < k + 1 → (P.setIfInBounds k v)[j]? = some (f j) := by
  intro j hj
  by_cases e : j = k
  · subst e; simp [hk, hv]
  · rw [Array.getElem?_setIfInBounds_ne (by omega)]; exact h j (by omega)

theorem below_draws {B : Nat} {w W : World} (h : Below B w W) (q : Nat) : Below B w (W.drewN q) := ⟨h.os, h.tape, h.output, h.size, h.block⟩

set_option maxRecDepth 100000 in
set_option maxHeartbeats 4000000 in
theorem walk_main (a0 : Int) (a1 : Option Addr) (len1 cap1 : Nat) (z1 : List Int) (a2 : Option Addr) (len2 cap2 : Nat) (z2 : List Int) (a3 : Int) (a4 : Int) (a5 : Bool) (w : World)
    (b1 o1 b2 o2 : Nat) (ha1 : Hid (0 < len1 → a1 = some ⟨b1, o1, none⟩)) (hb1 : 0 < len1 → b1 < w.heap.size) (hc1 : ∀ i, i < len1 → w.cell? ⟨b1, o1 + i, none⟩ = some (.int .u8 (z1.getD i 0))) (hw1 : ∀ i, i < len1 → 0 ≤ z1.getD i 0 ∧ z1.getD i 0 ≤ 255)
    (ha2 : Hid (0 < len2 → a2 = some ⟨b2, o2, none⟩)) (hb2 : 0 < len2 → b2 < w.heap.size) (hc2 : ∀ i, i < len2 → w.cell? ⟨b2, o2 + i, none⟩ = some (.int .u64 (z2.getD i 0)))
    (h0 : -32768 ≤ a0) (h0' : a0 ≤ 32767) (h4 : 0 ≤ a4) (h4' : a4 ≤ 255) (hl1 : len1 ≤ 1024) (hl2 : len2 ≤ 1024) :
    Calls Yba.prog 5 #[.int .i16 a0, .slice a1 len1 cap1, .slice a2 len2 cap2, .int .i64 a3, .int .u8 a4, .bool a5] w fun e w' => e = .returned (.bool true) ∧ Below w.heap.size w w' := by
  have HW1 := hide hw1
  clear hw1
  have HC1 := hide hc1
  have HC2 := hide hc2
  clear hc1 hc2
  obtain ⟨n, hn1, hn2, hnl⟩ : ∃ n : Nat, n ≤ len1 ∧ n ≤ len2 ∧ ((len2 < len1 ∧ n = len2) ∨ (len1 ≤ len2 ∧ n = len1)) := by
    by_cases h : len2 < len1
    · exact ⟨len2, by omega, by omega, .inl ⟨h, rfl⟩⟩
    · exact ⟨len1, by omega, by omega, .inr ⟨by omega, rfl⟩⟩
  rcases hnl with ⟨hlt, rfl⟩ | ⟨hlt, rfl⟩
  all_goals
    obtain ⟨P0, hP0, hmk22⟩ := mk22 n (by omega)
    obtain ⟨C0, hC0, hmk37⟩ := mk37 n (by omega)
    go_enter Yba.func5, Yba.ntmps5
    go_wp2
    go_loopw [16, 17] (fun c i wr => ∃ k : Nat, k ≤ n ∧ i = .int .i64 k ∧ c = .int .i64 (cur a0 z1 k) ∧ ∃ P C : Array Value, P.size = n ∧ C.size = n ∧ Hid (∀ j, j < k → P[j]? = some (.int .i64 (cur a0 z1 (j + 1)))) ∧ Hid (∀ j, j < k → C[j]? = some (.int .u64 (z2.getD j 0))) ∧ wr = (w.alloc (.cells P 3)).alloc (.cells C 47)) (fun _ i _ => n - (intOf i).toNat)
    case atStart => exact ⟨0, Nat.zero_le _, rfl, rfl, P0, C0, hP0, hC0, fun j hj => absurd hj (Nat.not_lt_zero _), fun j hj => absurd hj (Nat.not_lt_zero _), rfl⟩
    case round =>
      clear hmk22 hmk37 hP0 hC0 P0 C0
      obtain ⟨k, hk, rfl, rfl, P, C, hP, hC, HP, HC, rfl⟩ := hrel
      have hcb := cur_bd a0 z1 n (fun i hi => HW1.out i (by omega)) k hk
      by_cases hkn : k < n
      · obtain rfl := ha1.out (by omega)
        obtain rfl := ha2.out (by omega)
        have c1 := HC1.out k (by omega)
        have c2 := HC2.out k (by omega)
        have g1 := HW1.out k (by omega)
        have hb1' := hb1 (by omega)
        have hb2' := hb2 (by omega)
        generalize hg : z1.getD k 0 = g at c1 g1
        have HG : Hid (z1.getD k 0 = g) := hg
        generalize hgg : z2.getD k 0 = g2 at c2
        have HG2 : Hid (z2.getD k 0 = g2) := hgg
        generalize hcu : cur a0 z1 k = cu at hcb
        have HCU : Hid (cur a0 z1 k = cu) := hcu
        clear hg hgg hcu
        have hPk : k < P.size := by omega
        have hCk : k < C.size := by omega
        by_cases hk0 : 0 < k
        · go_wp2
          go_roundw
          case rel =>
            go_light
            have e1 := cur_succ a0 z1 k hk0
            rw [HCU.out, HG.out] at e1
            exact ⟨k + 1, by omega, by go_num, by rw [e1], _, _, by simp [hP], by simp [hC], set_next (f := fun j => .int .i64 (cur a0 z1 (j + 1))) hPk (by simp only [e1]) HP.out, set_next (f := fun j => .int .u64 (z2.getD j 0)) hCk (by simp only [HG2.out]) HC.out, rfl⟩
          case measure => simp [intOf]; omega
        · go_wp2
          go_roundw
          case rel =>
            go_light
            obtain rfl : k = 0 := by omega
            have e1 : cur a0 z1 (0 + 1) = cu + g := by rw [cur_succ0, HG.out, ← HCU.out, cur_zero]
            exact ⟨0 + 1, by omega, by go_num, by rw [e1], _, _, by simp [hP], by simp [hC], set_next (f := fun j => .int .i64 (cur a0 z1 (j + 1))) hPk (by simp only [e1]) HP.out, set_next (f := fun j => .int .u64 (z2.getD j 0)) hCk (by simp only [HG2.out]) HC.out, rfl⟩
          case measure => simp [intOf]; omega
      · have ekn : n = k := by omega
        subst ekn
        obtain ⟨zs, HZ, HS, HB⟩ : ∃ zs : List Int, Hid (∀ j, j < n → P[j]? = some (.int .i64 (zs.getD j 0))) ∧ Hid (∀ i j, i < j → j < n → zs.getD i 0 < zs.getD j 0) ∧ Hid (∀ j, j < n → -40000 ≤ zs.getD j 0 ∧ zs.getD j 0 ≤ 400000) := by
          refine ⟨pls a0 z1 n, fun j hj => ?_, pls_sorted a0 z1 n fun i hi => HW1.out i (by omega), fun j hj => ?_⟩
          · rw [pls_get _ _ _ _ hj]; exact HP.out j hj
          · rw [pls_get _ _ _ _ hj]; have := cur_bd a0 z1 n (fun i hi => HW1.out i (by omega)) (j + 1) (by omega); omega
        clear HP HW1 HC1 hkn hcb hP hC
        generalize cur a0 z1 n = cu
        obtain ⟨pk, rfl⟩ : ∃ pk : Nat, a4 = pk := ⟨a4.toNat, by omega⟩
        go_upto_region 18 with fail
        go_cut [86] (fun s wx => ∃ c : Bool, s = .bool c ∧ Hid (c = true → 0 < n) ∧ wx = (w.alloc (.cells P 3)).alloc (.cells C 47))
        case first =>
          by_cases hp : 0 < n
          · go_wp2
            all_goals
              go_meet
              case rel => exact ⟨_, rfl, fun _ => hp, rfl⟩
          · go_wp2
            all_goals
              go_meet
              case rel => exact ⟨false, rfl, fun h => (by cases h), rfl⟩
        case rest =>
          obtain ⟨c, rfl, HCC, rfl⟩ := hcut
          go_upto_if 86 with fail
          go_cut [18] (fun s wx => ∃ p : Int, s = .int .i64 p ∧ wx = (w.alloc (.cells P 3)).alloc (.cells C 47))
          case first =>
            cases c with
            | true =>
              have hp := HCC.out rfl
              have hm : pk % n < n := Nat.mod_lt _ hp
              have cz := HZ.out (pk % n) hm
              have bz := HB.out (pk % n) hm
              generalize zs.getD (pk % n) 0 = y at cz bz
              go_wp2
              all_goals
                go_meet
                case rel => exact ⟨_, rfl, rfl⟩
            | false =>
              go_wp2
              all_goals
                go_meet
                case rel => exact ⟨_, rfl, rfl⟩
          case rest =>
            obtain ⟨p, rfl, rfl⟩ := hcut
            clear HCC HB
            have hzs : ∀ j, j < n → ((((w.alloc (.cells P 3)).alloc (.cells C 47)).alloc (.cells #[.pointer (some ⟨w.heap.size + 3, 0, none⟩), .slice (some ⟨w.heap.size + 1, 0, none⟩) n n] 49)).alloc (.cells #[.slice (some ⟨w.heap.size, 0, none⟩) n n] 41)).cell? ⟨w.heap.size, j, none⟩ = some (.int .i64 (zs.getD j 0)) := by
              intro j hj
              rw [World.cell?_alloc_past _ _ _ (by simp; omega), World.cell?_alloc_past _ _ _ (by simp; omega), World.cell?_alloc_past _ _ _ (by simp), World.cell?_alloc_at _ _ _ _ rfl]
              exact HZ.out j hj
            have hcs : ∀ j, j < n → ((((w.alloc (.cells P 3)).alloc (.cells C 47)).alloc (.cells #[.pointer (some ⟨w.heap.size + 3, 0, none⟩), .slice (some ⟨w.heap.size + 1, 0, none⟩) n n] 49)).alloc (.cells #[.slice (some ⟨w.heap.size, 0, none⟩) n n] 41)).cell? ⟨w.heap.size + 1, j, none⟩ = some (.int .u64 (z2.getD j 0)) := by
              intro j hj
              rw [World.cell?_alloc_past _ _ _ (by simp), World.cell?_alloc_past _ _ _ (by simp), World.cell?_alloc_at _ _ _ _ (by simp)]
              exact HC.out j hj
            have HZS := hide hzs
            have HCS := hide hcs
            clear hzs hcs
            cases a5 with
            | true =>
              go_wp2_with fail
              refine (at_nil p _).mono ?_
              rintro e W ⟨rfl, hb⟩
              have hbel : Below w.heap.size w W := ((((Below.refl _ _).alloc (Nat.le_refl _) _).alloc (by simp) _).alloc (by simp; omega) _).trans (hb.mono (by simp; omega))
              have hcW : Hid (∀ j, j < n → W.cell? ⟨w.heap.size + 1, j, none⟩ = some (.int .u64 (z2.getD j 0))) := by
                intro j hj
                rw [hb.cell (p := ⟨w.heap.size + 1, j, none⟩) (by simp), World.cell?_alloc_past _ _ _ (by simp), World.cell?_alloc_at _ _ _ _ (by simp)]
                exact HC.out j hj
              clear hb HZS HCS HZ
              go_wp2
              go_loopw [23] (fun i wr => ∃ k q : Nat, k ≤ n ∧ i = .int .i64 k ∧ wr = W.drewN q) (fun i _ => n - (intOf i).toNat)
              case atStart => exact ⟨0, 0, Nat.zero_le _, rfl, rfl⟩
              case round =>
                obtain ⟨k, q, hk, rfl, rfl⟩ := hrel
                by_cases hkn : k < n
                · obtain rfl := ha2.out (by omega)
                  have cc := hcW.out k hkn
                  have ca : W.cell? ⟨b2, o2 + k, none⟩ = some (.int .u64 (z2.getD k 0)) := (hbel.cell (p := ⟨b2, o2 + k, none⟩) (hb2 (by omega))).trans (HC2.out k (by omega))
                  generalize z2.getD k 0 = g2 at ca cc
                  go_wp2
                  go_quiet (fail)
                  go_wp2
                  go_roundw
                  case rel => exact ⟨k + 1, _, by omega, by go_num, rfl⟩
                  case measure => simp [intOf]; omega
                · go_wp2
                  go_ret
                  exact ⟨rfl, below_draws hbel _⟩
            | false =>
              go_wp2_with fail
              refine (at_set _ _ _ n n n zs z2 p _ (by omega) (by simp [World.cell?_alloc_at]) (by simp) (by simp; omega) (by simp) HZS.out HCS.out HS).mono ?_
              rintro e W ⟨⟨g, rfl, hg⟩, hb⟩
              have HGW : Hid (g = want zs z2 p n) := got_want hg HS.out
              clear hg
              have hbel : Below w.heap.size w W := (((((Below.refl _ _).alloc (Nat.le_refl _) _).alloc (by simp) _).alloc (by simp; omega) _).alloc (by simp; omega) _).trans (hb.mono (by simp; omega))
              have hzW : Hid (∀ j, j < n → W.cell? ⟨w.heap.size, j, none⟩ = some (.int .i64 (zs.getD j 0))) := by
                intro j hj
                rw [hb.cell (p := ⟨w.heap.size, j, none⟩) (by simp; omega)]
                exact HZS.out j hj
              have hcW : Hid (∀ j, j < n → W.cell? ⟨w.heap.size + 1, j, none⟩ = some (.int .u64 (z2.getD j 0))) := by
                intro j hj
                rw [hb.cell (p := ⟨w.heap.size + 1, j, none⟩) (by simp)]
                exact HCS.out j hj
              clear hb HZS HCS HZ HC
              go_wp2
              go_loop [21, 22] (fun s i => ∃ k : Nat, k ≤ n ∧ i = .int .i64 k ∧ s = .int .u64 (want zs z2 p k)) (fun _ i => n - (intOf i).toNat)
              case atStart => exact ⟨0, Nat.zero_le _, rfl, rfl⟩
              case round =>
                obtain ⟨k, hk, rfl, rfl⟩ := hrel
                by_cases hkn : k < n
                · have cc := hcW.out k hkn
                  have cz := hzW.out k hkn
                  have hhit := want_hit zs z2 p k
                  have hmiss := want_miss zs z2 p k
                  generalize zs.getD k 0 = y at cz hhit hmiss
                  generalize z2.getD k 0 = x at cc hhit
                  generalize want zs z2 p k = u at hmiss
                  generalize hv : want zs z2 p (k + 1) = v at hhit hmiss
                  have HV : Hid (want zs z2 p (k + 1) = v) := hv
                  clear hv
                  by_cases hy : y = p
                  · have e1 : Hid (v = x) := hhit hy
                    have eb : (y == p) = true := by simp [hy]
                    clear hhit hmiss hy
                    go_wp2
                    go_round
                    case rel => exact ⟨k + 1, by omega, by go_num, by rw [HV.out, e1.out]⟩
                    case measure => simp [intOf]; omega
                  · have e1 : Hid (v = u) := hmiss hy
                    have eb : (y == p) = false := by simp [hy]
                    clear hhit hmiss hy
                    go_wp2
                    go_round
                    case rel => exact ⟨k + 1, by omega, by go_num, by rw [HV.out, e1.out]⟩
                    case measure => simp [intOf]; omega
                · have ekn : n = k := by omega
                  subst ekn
                  have eg := HGW.out
                  generalize want zs z2 p n = g' at eg
                  subst eg
                  go_wp2
                  go_loopw [23] (fun i wr => ∃ k q : Nat, k ≤ n ∧ i = .int .i64 k ∧ wr = W.drewN q) (fun i _ => n - (intOf i).toNat)
                  case atStart => exact ⟨0, 0, Nat.zero_le _, rfl, rfl⟩
                  case round =>
                    obtain ⟨k, q, hk, rfl, rfl⟩ := hrel
                    by_cases hkn : k < n
                    · obtain rfl := ha2.out (by omega)
                      have cc := hcW.out k hkn
                      have ca : W.cell? ⟨b2, o2 + k, none⟩ = some (.int .u64 (z2.getD k 0)) := (hbel.cell (p := ⟨b2, o2 + k, none⟩) (hb2 (by omega))).trans (HC2.out k (by omega))
                      generalize z2.getD k 0 = g2 at ca cc
                      go_wp2
                      go_quiet (fail)
                      go_wp2
                      go_roundw
                      case rel => exact ⟨k + 1, _, by omega, by go_num, rfl⟩
                      case measure => simp [intOf]; omega
                    · go_wp2
                      go_ret
                      exact ⟨rfl, below_draws hbel _⟩
end Go.Proofs.Ybulkcwdy.BAt
