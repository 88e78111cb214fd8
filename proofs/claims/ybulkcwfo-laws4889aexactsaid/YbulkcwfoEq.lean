/-
  '==' on hashes and on records.
-/
import Derived.Test.YbulkcwfoHash
import Derived.DeepKeys
namespace Go.Proofs.Ybulkcwfo
open Go.RowKit

theorem mapM_some {α β : Type} {f : α → Option β} {g : α → β} : ∀ (l : List α), (∀ i ∈ l, f i = some (g i)) → l.mapM f = some (l.map g)
  | [], _ => rfl
  | a :: l, h => by
    rw [List.mapM_cons, h a (by simp), mapM_some l (fun i hi => h i (by simp [hi]))]
    rfl

theorem wf_u8 (n : Int) (h0 : 0 ≤ n) (h1 : n ≤ 255) : (Lit.int .u8 n).wf = true := by
  show (decide (IntKind.u8.min ≤ n) && decide (n ≤ IntKind.u8.max)) = true
  rw [show IntKind.u8.min = 0 from rfl, show IntKind.u8.max = 255 from rfl]
  simp [h0, h1]

theorem xor_bd (k : Int) : 0 ≤ bits .xor .u8 k 90 ∧ bits .xor .u8 k 90 ≤ 255 := by
  have h : ∀ x : Int, 0 ≤ IntKind.u8.wrap x ∧ IntKind.u8.wrap x ≤ 255 := fun x => by
    rw [show IntKind.u8.wrap x = x % 256 from by simp [IntKind.wrap, IntKind.bits, IntKind.signed]]; omega
  exact h _

theorem key5 (d : Nat) (n : Int) (h0 : 0 ≤ n) (h1 : n ≤ 255) : Yba.prog.keyLits (d + 1) 5 [.int .u8 n] = some [.int .u8 n] := by
  unfold Program.keyLits
  simp [Yba.underlying5, wf_u8 n h0 h1]
theorem cells5 : Yba.prog.cellsOf 5 = 1 := by kernel_rfl
theorem cells30 : Yba.prog.cellsOf 30 = 32 := by kernel_rfl

def hb (k : Int) (i : Nat) : Int := if i = 0 then k else if i = 31 then bits .xor .u8 k 90 else 0
theorem hc_part (k : Int) (i : Nat) (h : i < 32) : ((hc k).drop i).take 1 = [.int .u8 (hb k i)] := by
  have e : (hc k)[i]? = some (.int .u8 (hb k i)) := by
    unfold hc hb
    by_cases h0 : i = 0
    · subst h0; simp
    · obtain ⟨j, rfl⟩ : ∃ j, i = j + 1 := ⟨i - 1, by omega⟩
      rw [List.getElem?_cons_succ]
      by_cases h31 : j = 30
      · subst h31; simp
      · rw [List.getElem?_append_left (by simp; omega), List.getElem?_replicate, if_pos (by omega), if_neg (by omega), if_neg (by omega)]
  rw [List.take_one, List.head?_drop, e]; rfl

theorem hb_bd (k : Int) (h0 : 0 ≤ k) (h1 : k ≤ 255) (i : Nat) : 0 ≤ hb k i ∧ hb k i ≤ 255 := by
  unfold hb
  have := xor_bd k
  split
  · omega
  · split <;> omega

def hl (k : Int) : List Lit := ((List.range 32).map fun i => [Lit.int .u8 (hb k i)]).flatten

theorem key30 (d : Nat) (k : Int) (h0 : 0 ≤ k) (h1 : k ≤ 255) : Yba.prog.keyLits (d + 2) 30 (hc k) = some (hl k) := by
  unfold Program.keyLits
  simp only [Yba.underlying30, cells5, cells30, hc_length, if_true, Nat.mul_one]
  rw [mapM_some (g := fun i => [Lit.int .u8 (hb k i)]) (List.range 32) (fun i hi => by
    rw [hc_part k i (by simpa using hi)]
    exact key5 d _ (hb_bd k h0 h1 i).1 (hb_bd k h0 h1 i).2)]
  rfl
theorem hl_head (k : Int) : (hl k).head? = some (.int .u8 k) := rfl
theorem hl_inj {k l : Int} (h : hl k = hl l) : k = l := by
  have := congrArg List.head? h
  rw [hl_head, hl_head] at this
  simpa using this

theorem eq30 (k l : Int) (hk0 : 0 ≤ k) (hk1 : k ≤ 255) (hl0 : 0 ≤ l) (hl1 : l ≤ 255) (w : World) : (Op.equalIn 10000 30 (.agg (hc k).toArray) (.agg (hc l).toArray)).run Yba.prog w = .ok (k == l) w := by
  obtain ⟨r, h1, h2⟩ := run_equalIn_deep (P := Yba.prog) 9997 3 30 (by kernel_rfl) w 2 2 (.agg (hc k).toArray) (.agg (hc l).toArray) (hl k) (hl l) (by kernel_rfl) (by kernel_rfl) (by simpa [Value.cells] using key30 0 k hk0 hk1) (by simpa [Value.cells] using key30 0 l hl0 hl1)
  rw [h1]
  congr 1
  by_cases e : k = l
  · subst e; simpa using h2.2 rfl
  · cases r with
    | true => exact absurd (hl_inj (h2.1 rfl)) e
    | false => simp [e]

end Go.Proofs.Ybulkcwfo
