/-
  LawS4886BAt: the plain mathematics: no Go in sight.
-/
import Derived.Test.YbulkcwdyAt
namespace Go.Proofs.Ybulkcwdy.BAt
open Go.RowKit

/-- The running place behind k rounds. -/
def cur (base : Int) (g : List Int) : Nat → Int
  | 0 => base
  | k + 1 => cur base g k + g.getD k 0 + if 0 < k then 1 else 0

theorem cur_zero (base : Int) (g : List Int) : cur base g 0 = base := rfl
theorem cur_succ0 (base : Int) (g : List Int) : cur base g 1 = base + g.getD 0 0 := by simp [cur]
theorem cur_succ (base : Int) (g : List Int) (k : Nat) (h : 0 < k) : cur base g (k + 1) = cur base g k + (g.getD k 0 + 1) := by
  simp only [cur, if_pos h]; omega

theorem cur_bd (base : Int) (g : List Int) (n : Nat) (hg : ∀ i, i < n → 0 ≤ g.getD i 0 ∧ g.getD i 0 ≤ 255) (k : Nat) (hk : k ≤ n) : base ≤ cur base g k ∧ cur base g k ≤ base + 256 * k := by
  induction k with
  | zero => simp [cur]
  | succ k ih =>
    have h1 := ih (by omega)
    have h2 := hg k (by omega)
    simp only [cur]
    split <;> omega

theorem cur_lt (base : Int) (g : List Int) (n : Nat) (hg : ∀ i, i < n → 0 ≤ g.getD i 0 ∧ g.getD i 0 ≤ 255) (i j : Nat) (hij : i < j) (hj : j < n) : cur base g (i + 1) < cur base g (j + 1) := by
  induction j with
  | zero => omega
  | succ j ih =>
    have h2 := hg (j + 1) hj
    have h3 := cur_succ base g (j + 1) (by omega)
    by_cases e : i = j
    · subst e; omega
    · have := ih (by omega) (by omega); omega

/-- The places. -/
def pls (base : Int) (g : List Int) (n : Nat) : List Int := (List.range n).map fun j => cur base g (j + 1)
theorem pls_get (base : Int) (g : List Int) (n j : Nat) (h : j < n) : (pls base g n).getD j 0 = cur base g (j + 1) := by
  simp [pls, h]
theorem pls_sorted (base : Int) (g : List Int) (n : Nat) (hg : ∀ i, i < n → 0 ≤ g.getD i 0 ∧ g.getD i 0 ≤ 255) : ∀ i j, i < j → j < n → (pls base g n).getD i 0 < (pls base g n).getD j 0 := by
  intro i j h1 h2
  rw [pls_get _ _ _ _ (by omega), pls_get _ _ _ _ h2]
  exact cur_lt base g n hg i j h1 h2

/-- What the law's own loop wants. -/
def want (zs cs : List Int) (p : Int) : Nat → Int
  | 0 => 0
  | k + 1 => if zs.getD k 0 = p then cs.getD k 0 else want zs cs p k
theorem want_zero (zs cs : List Int) (p : Int) : want zs cs p 0 = 0 := rfl
theorem want_hit (zs cs : List Int) (p : Int) (k : Nat) (h : zs.getD k 0 = p) : want zs cs p (k + 1) = cs.getD k 0 := by simp only [want, if_pos h]
theorem want_miss (zs cs : List Int) (p : Int) (k : Nat) (h : ¬ zs.getD k 0 = p) : want zs cs p (k + 1) = want zs cs p k := by simp only [want, if_neg h]

theorem want_none (zs cs : List Int) (p : Int) (n : Nat) (h : ∀ j, j < n → zs.getD j 0 ≠ p) : want zs cs p n = 0 := by
  induction n with
  | zero => rfl
  | succ n ih => rw [want_miss _ _ _ _ (h n (by omega))]; exact ih fun j hj => h j (by omega)
theorem want_one (zs cs : List Int) (p : Int) (n i : Nat) (hi : i < n) (hp : zs.getD i 0 = p) (hs : ∀ i j, i < j → j < n → zs.getD i 0 < zs.getD j 0) : want zs cs p n = cs.getD i 0 := by
  induction n with
  | zero => omega
  | succ n ih =>
    by_cases e : i = n
    · subst e; exact want_hit _ _ _ _ hp
    · have := hs i n (by omega) (by omega)
      rw [want_miss _ _ _ _ (by omega)]
      exact ih (by omega) fun a b h1 h2 => hs a b h1 (by omega)
theorem got_want {zs cs : List Int} {n : Nat} {p g : Int} (h : (∃ i, i < n ∧ zs.getD i 0 = p ∧ g = cs.getD i 0) ∨ ((∀ j, j < n → zs.getD j 0 ≠ p) ∧ g = 0)) (hs : ∀ i j, i < j → j < n → zs.getD i 0 < zs.getD j 0) : g = want zs cs p n := by
  rcases h with ⟨i, hi, hp, rfl⟩ | ⟨h, rfl⟩
  · exact (want_one zs cs p n i hi hp hs).symm
  · exact (want_none zs cs p n h).symm

/-- What the walk is told of a slice of integers that came in. -/
def IsRow (k : IntKind) (w : World) (a : Option Addr) (len cap : Nat) (zs : List Int) : Prop :=
  (a = none ∧ len = 0 ∧ cap = 0 ∧ zs = []) ∨
  ∃ x, a = some x ∧ len ≤ cap ∧ cap ≤ maxLen ∧ zs.length = cap ∧ (∀ i, i < zs.length → w.cell? (x.add i) = some (.int k (zs.getD i 0))) ∧ ∀ n ∈ zs, (Lit.int k n).wf = true

/-- The same in one form, nil or not. -/
theorem row_view {k : IntKind} {w : World} {a : Option Addr} {len cap : Nat} {zs : List Int} (h : IsRow k w a len cap zs) :
    ∃ b o : Nat, (0 < len → a = some ⟨b, o, none⟩) ∧ (0 < len → b < w.heap.size) ∧ (∀ i, i < len → w.cell? ⟨b, o + i, none⟩ = some (.int k (zs.getD i 0))) ∧ (∀ i, i < len → (Lit.int k (zs.getD i 0)).wf = true) ∧ len ≤ 9223372036854775807 := by
  rcases h with ⟨rfl, rfl, rfl, rfl⟩ | ⟨x, rfl, h1, h2, h3, h4, h5⟩
  · exact ⟨0, 0, by omega, by omega, by intro i hi; omega, by intro i hi; omega, by omega⟩
  · obtain ⟨b, o, s⟩ := x
    unfold maxLen at h2
    refine ⟨b, o, fun hl => ?_, fun hl => ?_, fun i hi => ?_, fun i hi => ?_, by omega⟩
    · have := World.cell?_spot (h4 0 (by omega))
      simp [Addr.add] at this; subst this; rfl
    · have := h4 0 (by omega)
      apply Classical.byContradiction
      intro hn
      rw [World.cell?] at this
      simp [Addr.add] at this
      split at this <;> simp_all
    · have h0 := World.cell?_spot (h4 0 (by omega))
      simp [Addr.add] at h0; subst h0
      have := h4 i (by omega)
      rw [show (⟨b, o, none⟩ : Addr).add i = ⟨b, o + i, none⟩ from by unfold Addr.add; split <;> simp_all] at this
      exact this
    · apply h5
      have hi' : i < zs.length := by omega
      simp only [List.getD, List.getElem?_eq_getElem hi', Option.getD_some]
      exact List.getElem_mem _

end Go.Proofs.Ybulkcwdy.BAt
