/-
  processError, (StampFormat).fits, (StampFormat).outside.
-/
import Derived.Test.YbulkcwdyFmtErr
import Derived.Deep.QuietTactic
import Derived.BigQuiet
namespace Go.Proofs.YbulkcwdyFmt
open Go.RowKit Go.Extern.Stop Go.Stop Go.Extern

theorem hide {p : Prop} (h : p) : Hid p := h
theorem bcell {W w1 : World} (hb : Below W.heap.size W w1) : (∀ b o, b < W.heap.size → w1.cell? ⟨b, o, none⟩ = W.cell? ⟨b, o, none⟩) ∧ (∀ b o, b < W.heap.size → w1.frozen? ⟨b, o, none⟩ = W.frozen? ⟨b, o, none⟩) :=
  ⟨fun b o h => hb.cell (p := ⟨b, o, none⟩) h, fun b o h => hb.frozen (p := ⟨b, o, none⟩) h⟩
theorem answers_below {F : Interp} {B : Nat} {w w' : World} (hF : F.answers w.tape) (hb : Below B w w') : F.answers w'.tape := by rw [hb.tape]; exact hF

theorem below_draws {B : Nat} {w W : World} (h : Below B w W) (q : Nat) : Below B w (W.drewN q) := ⟨h.os, h.tape, h.output, h.size, h.block⟩

theorem proc_ok (n p : Int) (w : World) (h0 : 0 ≤ p) (h1 : p < n) :
    Calls Ybaf.prog 9 #[.int .i64 n, .int .i64 p] w fun e w' => e = .returned .nilIface ∧ w' = w := by
  go_enter Ybaf.func9, Ybaf.ntmps9
  go_wp2
  go_ret
  exact ⟨rfl, rfl⟩

theorem proc_bad (F : Interp) (n p : Int) (w : World) (hF : F.answers w.tape) (hn : 1 ≤ n) (hn' : n ≤ 1048576) (h : p < 0 ∨ n ≤ p) :
    Calls Ybaf.prog 9 #[.int .i64 n, .int .i64 p] w fun e w' => ∃ a, e = .returned (.iface 66 (.pointer (some a))) ∧ Below w.heap.size w w' := by
  rcases h with h | h
  · go_enter Ybaf.func9, Ybaf.ntmps9
    go_wp2_with (go_at_call 10; refine (errorf_proc F p (n - 1) w.heap.size _ (by exact hF) (by go_simp) (by go_simp)).mono ?_; rintro e w' ⟨rfl, hb⟩)
    go_ret
    exact ⟨_, rfl, ((Below.refl _ _).alloc (Nat.le_refl _) _).trans (hb.mono (by simp))⟩
  · have h' : ¬ p < 0 := by omega
    go_enter Ybaf.func9, Ybaf.ntmps9
    go_wp2_with (go_at_call 10; refine (errorf_proc F p (n - 1) w.heap.size _ (by exact hF) (by go_simp) (by go_simp)).mono ?_; rintro e w' ⟨rfl, hb⟩)
    go_ret
    exact ⟨_, rfl, ((Below.refl _ _).alloc (Nat.le_refl _) _).trans (hb.mono (by simp))⟩

/-- A format's value. -/
def fmtV (pr P L pb cb : Int) (pt : Value) : Array Value := #[.int .i64 pr, .int .i64 P, .int .i64 L, .int .i64 pb, .int .i64 cb, pt]

theorem fits_yes (pr P L pb cb : Int) (pt : Value) (ph ct : Int) (w : World) (hP : P ≤ 16) (hL : L ≤ 16) (h0 : 0 ≤ ph) (h1 : ph < P) (h2 : 0 ≤ ct) (h3 : ct < L) :
    Calls Ybaf.prog 11 #[.agg #[.int .i64 pr, .int .i64 P, .int .i64 L, .int .i64 pb, .int .i64 cb, pt], .int .i64 ph, .int .i64 ct] w fun e w' => e = .returned (.bool true) ∧ w' = w.alloc (.cells #[.int .i64 pr, .int .i64 P, .int .i64 L, .int .i64 pb, .int .i64 cb, pt] 25) := by
  go_enter Ybaf.func11, Ybaf.ntmps11
  go_wp2
  go_ret
  exact ⟨rfl, rfl⟩

theorem wrap_big (x : Int) (h0 : -9223372036854775808 ≤ x) (h1 : x < 0) : 17 ≤ IntKind.u64.wrap x := by
  rw [IntKind.wrap_u64]; omega

theorem fits_no (pr P L pb cb : Int) (pt : Value) (ph ct : Int) (w : World) (hP0 : 1 ≤ P) (hP : P ≤ 16) (hL0 : 1 ≤ L) (hL : L ≤ 16) (hp : -9223372036854775808 ≤ ph) (hp' : ph ≤ 9223372036854775807) (hc : -9223372036854775808 ≤ ct) (hc' : ct ≤ 9223372036854775807) (h : ¬ (0 ≤ ph ∧ ph < P ∧ 0 ≤ ct ∧ ct < L)) :
    Calls Ybaf.prog 11 #[.agg #[.int .i64 pr, .int .i64 P, .int .i64 L, .int .i64 pb, .int .i64 cb, pt], .int .i64 ph, .int .i64 ct] w fun e w' => e = .returned (.bool false) ∧ w' = w.alloc (.cells #[.int .i64 pr, .int .i64 P, .int .i64 L, .int .i64 pb, .int .i64 cb, pt] 25) := by
  by_cases a : ph < 0
  · have k := wrap_big ph hp a
    go_enter Ybaf.func11, Ybaf.ntmps11
    go_wp2
    go_ret
    exact ⟨rfl, rfl⟩
  by_cases b : P ≤ ph
  · go_enter Ybaf.func11, Ybaf.ntmps11
    go_wp2
    go_ret
    exact ⟨rfl, rfl⟩
  by_cases c : ct < 0
  · have k := wrap_big ct hc c
    clear h
    go_enter Ybaf.func11, Ybaf.ntmps11
    go_wp2
    go_ret
    exact ⟨by simp; omega, rfl⟩
  · have k : L ≤ ct := by omega
    clear h
    go_enter Ybaf.func11, Ybaf.ntmps11
    go_wp2
    go_ret
    exact ⟨by simp; omega, rfl⟩

set_option maxHeartbeats 1000000 in
theorem outside_any (F : Interp) (pr P L pb cb : Int) (pt : Value) (p ph ct : Int) (w : World) (hF : F.answers w.tape) (hr0 : 1 ≤ pr) (hr : pr ≤ 1048576) (hP0 : 1 ≤ P) (hP : P ≤ 16) (hL0 : 1 ≤ L) (hL : L ≤ 16) (hp : -9223372036854775808 ≤ ph) (hp' : ph ≤ 9223372036854775807) :
    Calls Ybaf.prog 12 #[.agg #[.int .i64 pr, .int .i64 P, .int .i64 L, .int .i64 pb, .int .i64 cb, pt], .int .i64 p, .int .i64 ph, .int .i64 ct] w fun e w' => ∃ a, e = .returned (.iface 66 (.pointer (some a))) ∧ Below w.heap.size w w' := by
  by_cases a : 0 ≤ ph ∧ ph < P
  · obtain ⟨a1, a2⟩ := a
    go_enter Ybaf.func12, Ybaf.ntmps12
    go_wp2
    go_quiet (fail)
    go_wp2
    go_quiet (fail)
    go_wp2_with fail
    refine (errorf_out F ⟨#[99, 111, 117, 110, 116, 101, 114]⟩ p (pr - 1) ct (L - 1) (w.heap.size + 1) _ (by exact hF) (by go_simp) (by go_simp) (by go_simp) (by go_simp) (by go_simp)).mono ?_
    rintro e w' ⟨rfl, hb⟩
    go_wp2
    go_ret
    exact ⟨_, rfl, ((below_draws ((Below.refl _ _).alloc (Nat.le_refl _) _) _).alloc (by simp) _).trans (hb.mono (by simp; omega))⟩
  · have k : P ≤ IntKind.u64.wrap ph := by
      by_cases b : ph < 0
      · have := wrap_big ph hp b; omega
      · rw [IntKind.wrap_u64]; omega
    clear a
    go_enter Ybaf.func12, Ybaf.ntmps12
    go_wp2
    go_quiet (fail)
    go_wp2_with fail
    refine (errorf_out F ⟨#[112, 104, 97, 115, 101]⟩ p (pr - 1) ph (P - 1) (w.heap.size + 1) _ (by exact hF) (by go_simp) (by go_simp) (by go_simp) (by go_simp) (by go_simp)).mono ?_
    rintro e w' ⟨rfl, hb⟩
    go_wp2
    go_ret
    exact ⟨_, rfl, ((below_draws ((Below.refl _ _).alloc (Nat.le_refl _) _) _).alloc (by simp) _).trans (hb.mono (by simp; omega))⟩

end Go.Proofs.YbulkcwdyFmt
