/-
  slices.BinarySearch[[]int,int], (clock).search, (clock).at: walked over this dump.
-/
import Derived.Test.YbulkcwdyProg
import Derived.WalkKit
import Derived.Below
namespace Go.Proofs.Ybulkcwdy
open Go.RowKit

theorem bcell {W w1 : World} (hb : Below W.heap.size W w1) : (∀ b o, b < W.heap.size → w1.cell? ⟨b, o, none⟩ = W.cell? ⟨b, o, none⟩) ∧ (∀ b o, b < W.heap.size → w1.frozen? ⟨b, o, none⟩ = W.frozen? ⟨b, o, none⟩) :=
  ⟨fun b o h => hb.cell (p := ⟨b, o, none⟩) h, fun b o h => hb.frozen (p := ⟨b, o, none⟩) h⟩

theorem isNaN_c (x : Int) (w : World) : Calls Yba.prog 22 #[.int .i64 x] w fun e w' => e = .returned (.bool false) ∧ w' = w := by
  go_enter Yba.func22, Yba.ntmps22
  go_wp2
  go_ret
  exact ⟨by simp, rfl⟩

theorem isNaN_s (x : Int) (w : World) : Calls Yba.prog 40 #[.int .i64 x] w fun e w' => e = .returned (.bool false) ∧ w' = w := by
  go_enter Yba.func40, Yba.ntmps40
  go_wp2
  go_ret
  exact ⟨by simp, rfl⟩

theorem less_any (x y : Int) (w : World) : Calls Yba.prog 19 #[.int .i64 x, .int .i64 y] w fun e w' => e = .returned (.bool (decide (x < y))) ∧ w' = w := by
  go_enter Yba.func19, Yba.ntmps19
  go_wp2_with (go_at_call 22; refine (isNaN_c _ _).mono ?_; rintro e w' ⟨rfl, rfl⟩)
  go_ret
  exact ⟨rfl, rfl⟩

/-- What BinarySearch finds in a row that strictly grows. -/
def Found (zs : List Int) (n : Nat) (x : Int) (i : Nat) (f : Bool) : Prop :=
  (f = true → i < n ∧ zs.getD i 0 = x) ∧ (f = false → ∀ j, j < n → zs.getD j 0 ≠ x)

/-- The two results of the search. -/
def BsEnd (zs : List Int) (n : Nat) (x : Int) (e : Ending) : Prop := ∃ (i : Nat) (f : Bool), e = .returned (.tuple #[.int .i64 i, .bool f]) ∧ Found zs n x i f
theorem bsEnd_mk {zs : List Int} {n : Nat} {x : Int} {e : Ending} (i : Nat) (f : Bool) (he : e = .returned (.tuple #[.int .i64 i, .bool f])) (h : Found zs n x i f) : BsEnd zs n x e := ⟨i, f, he, h⟩

theorem bs_any (b off n c : Nat) (zs : List Int) (x : Int) (w : World) (hn : n ≤ 1048576)
    (hc : ∀ j, j < n → w.cell? ⟨b, off + j, none⟩ = some (.int .i64 (zs.getD j 0)))
    (hs : Hid (∀ i j, i < j → j < n → zs.getD i 0 < zs.getD j 0)) :
    Calls Yba.prog 33 #[.slice (some ⟨b, off, none⟩) n c, .int .i64 x] w fun e w' => w' = w ∧ BsEnd zs n x e := by
  go_enter Yba.func33, Yba.ntmps33
  go_wp2
  go_loop [7, 8] (fun s7 s8 => ∃ lo hi : Nat, s7 = .int .i64 lo ∧ s8 = .int .i64 hi ∧ lo ≤ hi ∧ hi ≤ n ∧ Hid (∀ t, t < lo → zs.getD t 0 < x) ∧ Hid (∀ t, hi ≤ t → t < n → x ≤ zs.getD t 0)) (fun s7 s8 => (intOf s8 - intOf s7).toNat)
  case atStart => exact ⟨0, n, rfl, rfl, Nat.zero_le _, Nat.le_refl _, fun t ht => absurd ht (Nat.not_lt_zero _), fun t h1 h2 => by omega⟩
  case round =>
    obtain ⟨lo, hi, rfl, rfl, hlh, hin, h1, h2⟩ := hrel
    by_cases hlt : lo < hi
    · have cm : w.cell? ⟨b, off + (lo + hi) / 2, none⟩ = some (.int .i64 (zs.getD ((lo + hi) / 2) 0)) := hc _ (by omega)
      clear hc
      generalize hy : zs.getD ((lo + hi) / 2) 0 = y at cm
      have Y : Hid (zs.getD ((lo + hi) / 2) 0 = y) := hy
      clear hy
      by_cases hyx : y < x
      · go_wp2_with (first | (go_at_call 19; refine (less_any _ _ _).mono ?_; rintro e w' ⟨rfl, rfl⟩) | (go_at_call 40; refine (isNaN_s _ _).mono ?_; rintro e w' ⟨rfl, rfl⟩))
        go_round
        case rel =>
          refine ⟨(lo + hi) / 2 + 1, hi, by go_num, rfl, by omega, hin, ?_, h2⟩
          intro t ht
          by_cases e : t = (lo + hi) / 2
          · subst e; rw [Y.out]; exact hyx
          · have := hs.out t ((lo + hi) / 2) (by omega) (by omega); rw [Y.out] at this; omega
        case measure => simp [intOf]; omega
      · go_wp2_with (first | (go_at_call 19; refine (less_any _ _ _).mono ?_; rintro e w' ⟨rfl, rfl⟩) | (go_at_call 40; refine (isNaN_s _ _).mono ?_; rintro e w' ⟨rfl, rfl⟩))
        go_round
        case rel =>
          refine ⟨lo, (lo + hi) / 2, rfl, by go_num, by omega, by omega, h1, ?_⟩
          intro t ht htn
          by_cases e : t = (lo + hi) / 2
          · subst e; rw [Y.out]; omega
          · have := hs.out ((lo + hi) / 2) t (by omega) htn; rw [Y.out] at this; omega
        case measure => simp [intOf]; omega
    · obtain rfl : hi = lo := by omega
      by_cases hln : hi < n
      · have cm : w.cell? ⟨b, off + hi, none⟩ = some (.int .i64 (zs.getD hi 0)) := hc _ (by omega)
        clear hc
        generalize hy : zs.getD hi 0 = y at cm
        have Y : Hid (zs.getD hi 0 = y) := hy
        clear hy
        by_cases hyx : y = x
        · have hb : (y == x) = true := by simp [hyx]
          have HX : Hid (y = x) := hyx
          clear hyx
          go_wp2_with (first | (go_at_call 19; refine (less_any _ _ _).mono ?_; rintro e w' ⟨rfl, rfl⟩) | (go_at_call 40; refine (isNaN_s _ _).mono ?_; rintro e w' ⟨rfl, rfl⟩))
          go_ret2
          exact ⟨rfl, bsEnd_mk hi true rfl ⟨fun _ => ⟨hln, Y.out.trans HX.out⟩, fun h => by cases h⟩⟩
        · have hb : (y == x) = false := by simp [hyx]
          have HX : Hid (¬ y = x) := hyx
          clear hyx
          go_wp2_with (first | (go_at_call 19; refine (less_any _ _ _).mono ?_; rintro e w' ⟨rfl, rfl⟩) | (go_at_call 40; refine (isNaN_s _ _).mono ?_; rintro e w' ⟨rfl, rfl⟩))
          go_ret2
          refine ⟨rfl, bsEnd_mk hi false rfl ⟨fun h => (by cases h), fun _ j hj => ?_⟩⟩
          by_cases h : j < hi
          · have := h1.out j h; omega
          · by_cases e : j = hi
            · subst e; rw [Y.out]; exact HX.out
            · have h3 := hs.out hi j (by omega) hj; have h4 := h2.out hi (by omega) hln; omega
      · clear hc
        go_wp2_with (first | (go_at_call 19; refine (less_any _ _ _).mono ?_; rintro e w' ⟨rfl, rfl⟩) | (go_at_call 40; refine (isNaN_s _ _).mono ?_; rintro e w' ⟨rfl, rfl⟩))
        go_ret2
        refine ⟨rfl, bsEnd_mk hi false rfl ⟨fun h => (by cases h), fun _ j hj => ?_⟩⟩
        have := h1.out j (by omega); omega

end Go.Proofs.Ybulkcwdy
