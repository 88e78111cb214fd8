/-
  (*decoder).u16; a copy by append onto nil.
-/
import Derived.Test.YbulkcwlmDoorRows
import Derived.WalkKit
import Derived.Below
import Derived.Deep.QuietTactic
import Derived.BigQuiet
import Derived.Laws.BitsAllLaws
import Derived.Deep.AppendSrc
import Derived.Deep.Upon
import Derived.Deep.RegionHeld3
namespace Go.Proofs.YbulkcwlmDoor
open Go.RowKit

theorem hide {p : Prop} (h : p) : Hid p := h
theorem or_add (x y : Int) (hx0 : 0 ≤ x) (hx1 : x ≤ 255) (hy0 : 0 ≤ y) (hy1 : y ≤ 255) : bits .or .u16 (x * 256) y = x * 256 + y := by
  rw [u16_or _ _ (by omega) (by omega) (by omega) (by omega)]
  obtain ⟨a, rfl⟩ : ∃ a : Nat, x = a := ⟨x.toNat, by omega⟩
  obtain ⟨b, rfl⟩ : ∃ b : Nat, y = b := ⟨y.toNat, by omega⟩
  have e : ((a : Int) * 256).toNat = a <<< 8 := by rw [Nat.shiftLeft_eq]; omega
  rw [e, Int.toNat_natCast, ← Nat.shiftLeft_add_eq_or_of_lt (by omega), Nat.shiftLeft_eq]
  omega

set_option maxHeartbeats 1000000 in
theorem u16_any (bd g n cap o : Nat) (x y : Int) (w : World) (hb0 : w.cell? ⟨bd, 0, none⟩ = some (.slice (some ⟨g, 0, none⟩) n cap)) (hb1 : w.cell? ⟨bd, 1, none⟩ = some (.int .i64 o)) (hf : w.frozen? ⟨bd, 1, none⟩ = false)
    (ho : o + 1 < n) (hn : n ≤ 1024) (hx : w.cell? ⟨g, o, none⟩ = some (.int .u8 x)) (hy : w.cell? ⟨g, o + 1, none⟩ = some (.int .u8 y)) (hx0 : 0 ≤ x) (hx1 : x ≤ 255) (hy0 : 0 ≤ y) (hy1 : y ≤ 255) :
    Calls Ybad.prog 6 #[.pointer (some ⟨bd, 0, none⟩)] w fun e w' => e = .returned (.int .u16 (x * 256 + y)) ∧ ∃ q, w' = (w.drewN q).setCell ⟨bd, 1, none⟩ (.int .i64 (o + 2)) := by
  have hor := or_add x y hx0 hx1 hy0 hy1
  go_enter Ybad.func6, Ybad.ntmps6
  go_wp2
  go_quiet (fail)
  go_wp2
  go_ret
  refine ⟨?_, _, rfl⟩
  simp

theorem info5 : (Ybad.prog.info? 5).map (fun i => (i.zero, i.size, i.bytes)) = some (some (.int .u8 0), 1, 1) := by kernel_rfl

/-- What 'append([]byte(nil), x...)' leaves. -/
def Cop (w w1 : World) (v : Value) (m : Nat) (f : Nat → Int) : Prop :=
  (m = 0 ∧ v = .slice none 0 0 ∧ w1 = w) ∨ (0 < m ∧ ∃ (cap : Nat) (A : Array Value), v = .slice (some ⟨w.heap.size, 0, none⟩) m cap ∧ m ≤ cap ∧ m ≤ A.size ∧ w1 = w.drew.alloc (.cells A 5) ∧ ∀ i, i < m → A[i]? = some (.int .u8 (f i)))

theorem run_copy (w : World) (ty : TypeId) (ao : Option Addr) (m c b off : Nat) (f : Nat → Int) (hao : 0 < m → ao = some ⟨b, off, none⟩) (hz : ∀ i, i < m → w.cell? ⟨b, off + i, none⟩ = some (.int .u8 (f i))) (hm : m ≤ 1024) :
    ∃ v w1, (Builtin.append_ #[22, 22] ty #[.slice none 0 0, .slice ao m c]).run Ybad.prog w = .ok v w1 ∧ Cop w w1 v m f := by
  obtain ⟨i, hi, h0, h1, h2⟩ := info_parts info5
  rcases Nat.eq_zero_or_pos m with rfl | hp
  · refine ⟨_, _, run_append_nothing w 22 22 ty 5 i Ybad.underlying22 hi none 0 0 (Nat.le_refl _) _ ?_, .inl ⟨rfl, rfl, rfl⟩⟩
    cases ao with
    | none => exact Src.ofNil w Ybad.underlying22 c
    | some a => exact Src.ofSlice w Ybad.underlying22 a 0 c [] (by simp) (fun j u hj => by simp at hj) (by simp)
  · obtain rfl := hao hp
    have hs : Src Ybad.prog i.size 22 (.slice (some ⟨b, off, none⟩) m c) m ((List.range m).map fun j => .int .u8 (f j)) w := by
      refine Src.ofSlice w Ybad.underlying22 _ m c _ (by simp [h1]) (fun j u hj => ?_) (by simp [Value.oneCell'])
      have hjm : j < m := by
        rcases Nat.lt_or_ge j m with h | h
        · exact h
        · rw [List.getElem?_eq_none (by simpa using h)] at hj; cases hj
      rw [Addr.add_mid, hz j hjm, ← hj]
      simp [hjm]
    refine ⟨_, _, run_append_grow_src w 22 22 ty 5 i (.int .u8 0) Ybad.underlying22 hi h0 none 0 0 [] ?_ _ m _ hs (by omega) (by omega) ?_, .inr ⟨hp, grownCap w (0 + m) 0 5, _, by rw [Nat.zero_add], ?_, ?_, rfl, fun j hj => ?_⟩⟩
    · simp [Builtin.firstCells]
    · rw [h2]; exact growslice_fits (by omega) (by omega)
    · exact Nat.le_trans (by omega) (grownCap_ge w (0 + m) 0 5)
    · simp
    · rw [Array.getElem?_append_left (by simpa using hj)]; simp [hj]
end Go.Proofs.YbulkcwlmDoor
