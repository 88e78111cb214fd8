/-
  (clock).search, (clock).at: walked over this dump.
-/
import Derived.Test.YbulkcwdySearch
namespace Go.Proofs.Ybulkcwdy
open Go.RowKit

/-- The clock of a zero Event: no place set. -/
theorem search_nil (p : Int) (w : World) :
    Calls Yba.prog 20 #[.agg #[.pointer none, .slice none 0 0], .int .i64 p] w fun e w' => e = .returned (.tuple #[.int .i64 0, .bool false]) ∧ Below w.heap.size w w' := by
  go_enter Yba.func20, Yba.ntmps20
  go_wp2
  go_ret2
  exact ⟨rfl, (Below.refl _ _).alloc (Nat.le_refl _) _⟩

theorem at_nil (p : Int) (w : World) :
    Calls Yba.prog 12 #[.agg #[.pointer none, .slice none 0 0], .int .i64 p] w fun e w' => e = .returned (.int .u64 0) ∧ Below w.heap.size w w' := by
  go_enter Yba.func12, Yba.ntmps12
  go_wp2_with (go_at_call 20; refine (search_nil _ _).mono ?_; rintro e w' ⟨rfl, hb⟩; obtain ⟨hc, hf⟩ := bcell hb)
  go_ret
  exact ⟨rfl, ((Below.refl _ _).alloc (Nat.le_refl _) _).trans (hb.mono (by simp))⟩

theorem search_set (sb b n c : Nat) (cv : Value) (zs : List Int) (p : Int) (w : World) (hn : n ≤ 1048576)
    (hset : w.cell? ⟨sb, 0, none⟩ = some (.slice (some ⟨b, 0, none⟩) n c)) (hsb : sb < w.heap.size) (hbb : b < w.heap.size)
    (hc : ∀ j, j < n → w.cell? ⟨b, j, none⟩ = some (.int .i64 (zs.getD j 0)))
    (hs : Hid (∀ i j, i < j → j < n → zs.getD i 0 < zs.getD j 0)) :
    Calls Yba.prog 20 #[.agg #[.pointer (some ⟨sb, 0, none⟩), cv], .int .i64 p] w fun e w' => BsEnd zs n p e ∧ Below w.heap.size w w' := by
  go_enter Yba.func20, Yba.ntmps20
  go_wp2_with (go_at_call 33; refine (bs_any b 0 n c zs p _ hn (fun j hj => by simpa [World.cell?_alloc_past, hbb] using hc j hj) hs).mono ?_; rintro e w' ⟨rfl, i, f, rfl, hF⟩)
  go_ret2
  exact ⟨bsEnd_mk i f rfl hF, (Below.refl _ _).alloc (Nat.le_refl _) _⟩

/-- A clock with a place set: the counter at place p, or 0. -/
def AtEnd (zs cs : List Int) (n : Nat) (p : Int) (e : Ending) : Prop :=
  ∃ g : Int, e = .returned (.int .u64 g) ∧ ((∃ i, i < n ∧ zs.getD i 0 = p ∧ g = cs.getD i 0) ∨ ((∀ j, j < n → zs.getD j 0 ≠ p) ∧ g = 0))

theorem at_set (sb b b2 n c c2 : Nat) (zs cs : List Int) (p : Int) (w : World) (hn : n ≤ 1048576)
    (hset : w.cell? ⟨sb, 0, none⟩ = some (.slice (some ⟨b, 0, none⟩) n c)) (hsb : sb < w.heap.size) (hbb : b < w.heap.size) (hb2 : b2 < w.heap.size)
    (hc : ∀ j, j < n → w.cell? ⟨b, j, none⟩ = some (.int .i64 (zs.getD j 0)))
    (hc2 : ∀ j, j < n → w.cell? ⟨b2, j, none⟩ = some (.int .u64 (cs.getD j 0)))
    (hs : Hid (∀ i j, i < j → j < n → zs.getD i 0 < zs.getD j 0)) :
    Calls Yba.prog 12 #[.agg #[.pointer (some ⟨sb, 0, none⟩), .slice (some ⟨b2, 0, none⟩) n c2], .int .i64 p] w fun e w' => AtEnd zs cs n p e ∧ Below w.heap.size w w' := by
  go_enter Yba.func12, Yba.ntmps12
  go_wp2_with fail
  refine (search_set sb b n c _ zs p _ hn (by simpa [World.cell?_alloc_past, hsb] using hset) (by simp; omega) (by simp; omega) (fun j hj => by simpa [World.cell?_alloc_past, hbb] using hc j hj) hs).mono ?_
  rintro e w' ⟨⟨i, f, rfl, hF⟩, hb⟩
  obtain ⟨hcl, hfl⟩ := bcell hb
  have hz := hb.size
  simp only [World.size_alloc] at hz hcl hfl
  cases f with
  | true =>
    have hi := (hF.1 rfl).1
    have HZ : Hid (zs.getD i 0 = p) := (hF.1 rfl).2
    have hg := hc2 i hi
    clear hF hc hc2
    go_wp2
    go_ret
    exact ⟨⟨_, rfl, .inl ⟨i, hi, HZ.out, by simp⟩⟩, ((Below.refl _ _).alloc (Nat.le_refl _) _).trans (hb.mono (by simp))⟩
  | false =>
    have HN : Hid (∀ j, j < n → zs.getD j 0 ≠ p) := hF.2 rfl
    clear hF hc hc2
    go_wp2
    go_ret
    exact ⟨⟨_, rfl, .inr ⟨HN.out, rfl⟩⟩, ((Below.refl _ _).alloc (Nat.le_refl _) _).trans (hb.mono (by simp))⟩

end Go.Proofs.Ybulkcwdy
