/-
  LawS4900ADecode: the walk.
-/
import Derived.Test.YbulkcwlmDoorDec
import Derived.LaidEql
import Derived.LaidEqlPtr
import Derived.WalkLawsBesides
import Derived.Lib.LazyBuf
namespace Go.Proofs.YbulkcwlmDoor
open Go.RowKit

theorem info27 : (Ybad.prog.info? 27).map (·.size) = some 6 := by kernel_rfl
theorem comp43 : (Ybad.prog.info? 43).map (·.comparable) = some true := by kernel_rfl
theorem size64 : (Ybad.prog.info? 64).map (·.size) = some 1 := by kernel_rfl

theorem wpList_copy {ops : Array Oper} {rest : List Oper} {o : Oper} {a : Act} {w : World} {Q : Exit → Act → World → Prop} (hg : o.guard = none) (s x : Operand)
    (hop : o.op = Op.call { callee := Callee.builtin Builtin.append, args := #[s, x], argTypes := #[22, 22] }) (hs : a.eval s = .slice none 0 0) (ao : Option Addr) (m c b off : Nat) (f : Nat → Int) (hx : a.eval x = .slice ao m c)
    (hao : 0 < m → ao = some ⟨b, off, none⟩) (hz : ∀ i, i < m → w.cell? ⟨b, off + i, none⟩ = some (.int .u8 (f i))) (hm : m ≤ 1024) (h : ∀ v w1, Cop w w1 v m f → wpList Ybad.prog ops Q rest (a.put o.dst v) w1) :
    wpList Ybad.prog ops Q (o :: rest) a w :=
  wpList_plain hg fun K hK => by
    obtain ⟨v, w1, hr, hc⟩ := run_copy w o.type ao m c b off f hao hz hm
    unfold Oper.wp
    simp [execOp, hop, resolve, invoke, builtin, hs, hx, hr, Result.andThen]
    exact hK _ _ (h v w1 hc)
theorem cop_nil {w w1 : World} {v : Value} {f : Nat → Int} (h : Cop w w1 v 0 f) : v = .slice none 0 0 ∧ w1 = w := by
  rcases h with ⟨_, rfl, rfl⟩ | ⟨h, _⟩
  · exact ⟨rfl, rfl⟩
  · omega
theorem cop_pos {w w1 : World} {v : Value} {m : Nat} {f : Nat → Int} (hm : 0 < m) (h : Cop w w1 v m f) :
    ∃ (cap : Nat) (A : Array Value), v = .slice (some ⟨w.heap.size, 0, none⟩) m cap ∧ m ≤ cap ∧ m ≤ A.size ∧ w1 = w.drew.alloc (.cells A 5) ∧ ∀ i, i < m → A[i]? = some (.int .u8 (f i)) := by
  rcases h with ⟨h, _⟩ | ⟨_, h⟩
  · omega
  · exact h

theorem run_ta (v : Value) (w : World) : (Instr.typeAssert (.iface 34 v) 29 34 true).run Ybad.prog w = .ok (.tuple #[v, .bool true]) w := by
  simp [Instr.typeAssert, run_underlying Ybad.underlying34, go_sem, Result.andThen]
theorem run_same (a : Addr) (w : World) : (binOp .eql 31 (.iface 43 (.pointer (some a))) (.iface 43 (.pointer (some a)))).run Ybad.prog w = .ok (.bool true) w := by
  obtain ⟨i, hi, hcmp⟩ := Option.map_eq_some_iff.1 comp43
  obtain ⟨j, hj, _⟩ := Option.map_eq_some_iff.1 size64
  exact run_eql_iface_ptr_same w a Ybad.underlying31 Ybad.underlying43 hi hcmp hj
theorem run_snil (w : World) : (binOp .eql 22 (.slice none 0 0) (.slice none 0 0)).run Ybad.prog w = .ok (.bool true) w := run_eql_slice_nil w 22 5 none 0 0 Ybad.underlying22

set_option maxRecDepth 100000 in
set_option maxHeartbeats 4000000 in
/-- Nothing came in. -/
theorem walk_nil (a0 : Option Addr) (cap : Nat) (x y : Int) (w : World) (a : Addr) (hg : w.cell? ⟨0, 0, none⟩ = some (.iface 43 (.pointer (some a)))) :
    Calls Ybad.prog 3 #[.slice a0 0 cap, .int .u64 x, .int .u64 y] w fun e w' => e = .returned (.bool true) ∧ Below w.heap.size w w' := by
  have h0 : 0 < w.heap.size := World.block_lt_of_cell? w _ hg
  have hta := run_ta
  have hsame := run_same a
  have hsnil := run_snil
  go_enter Ybad.func3, Ybad.ntmps3
  go_wp2_with (first | (refine wpList_copy rfl _ _ rfl rfl a0 0 cap 0 0 (fun _ => 0) rfl (fun h => absurd h (by omega)) (fun i h => absurd h (by omega)) (by omega) ?_; intro v w1 hc; obtain ⟨rfl, rfl⟩ := cop_nil hc) | (go_at_call 4; refine (dec_no (w1.heap.size) 0 0 a _ (by go_simp) (by go_simp) (by omega) (by omega) (by omega)).mono ?_; rintro r w' ⟨rfl, hB, k0, k1, k2, k3, k4⟩; simp only [World.size_alloc] at k0 k1 k2 k3))
  have HB := hide hB
  clear hB
  have hg' : w'.cell? ⟨0, 0, none⟩ = some (.iface 43 (.pointer (some a))) := by
    rw [HB.out.cell (p := ⟨0, 0, none⟩) (by simp), World.cell?_alloc_past _ _ _ h0]; exact hg
  go_loopw [16] (fun i wr => i = .int .i64 0 ∧ wr = w') (fun _ _ => 0)
  case atStart => exact ⟨rfl, rfl⟩
  case round =>
    obtain ⟨rfl, rfl⟩ := hrel
    go_wp2
    go_ret
    exact ⟨by simp, ((Below.refl _ _).alloc (Nat.le_refl _) _).trans (HB.out.mono (by simp))⟩

set_option maxRecDepth 100000 in
set_option maxHeartbeats 4000000 in
/-- The data is too short. -/
theorem walk_no (b off n cap o e : Nat) (f : Nat → Int) (x y : Int) (w : World) (a : Addr) (hg : w.cell? ⟨0, 0, none⟩ = some (.iface 43 (.pointer (some a)))) (hn0 : 0 < n) (hn : n ≤ 1024) (hx0 : 0 ≤ x) (hx : x ≤ 18446744073709551615) (hy0 : 0 ≤ y) (hy : y ≤ 18446744073709551615)
    (hb : b < w.heap.size) (hz : ∀ i, i < n → w.cell? ⟨b, off + i, none⟩ = some (.int .u8 (f i))) (hxo : x % ((n : Int) + 1) = o) (hye : y % ((n : Int) + 1) = e) (ho : o ≤ n) (he : e ≤ n) (hlt : e < o + 4) :
    Calls Ybad.prog 3 #[.slice (some ⟨b, off, none⟩) n cap, .int .u64 x, .int .u64 y] w fun e w' => e = .returned (.bool true) ∧ Below w.heap.size w w' := by
  have h0 : 0 < w.heap.size := World.block_lt_of_cell? w _ hg
  have hta := run_ta
  have hsame := run_same a
  have hsnil := run_snil
  have HZ := hide hz
  clear hz
  go_enter Ybad.func3, Ybad.ntmps3
  go_wp2_with (first | (refine wpList_copy rfl _ _ rfl rfl _ n cap b off f rfl (fun _ => rfl) HZ.out hn ?_; intro v w1 hc; obtain ⟨cp, A, rfl, hcp, hA, rfl, hAi⟩ := cop_pos hn0 hc; have HA := hide hAi; clear hc hAi) | (go_at_call 4; refine (dec_no (w.heap.size + 1) o e a _ (by go_simp) (by go_simp) (by omega) (by omega) hlt).mono ?_; rintro r w' ⟨rfl, hB, k0, k1, k2, k3, k4⟩; simp only [World.size_alloc, World.size_drew] at k0 k1 k2 k3; have HB := hide hB; clear hB))
  have hg' : w'.cell? ⟨0, 0, none⟩ = some (.iface 43 (.pointer (some a))) := by
    rw [HB.out.cell (p := ⟨0, 0, none⟩) (by simp), World.cell?_drew, World.cell?_alloc_past _ _ _ (by simp), World.cell?_alloc_past _ _ _ h0]; exact hg
  go_loopw [16] (fun i wr => ∃ (k q : Nat), k ≤ n ∧ i = .int .i64 k ∧ wr = w'.drewN q) (fun i _ => n - (intOf i).toNat)
  case atStart => exact ⟨0, 0, Nat.zero_le _, rfl, rfl⟩
  case round =>
    obtain ⟨k, q, hk, rfl, rfl⟩ := hrel
    by_cases hkn : k < n
    · have m1 : w'.cell? ⟨w.heap.size, k, none⟩ = some (.int .u8 (f k)) := by
        rw [HB.out.cell (p := ⟨w.heap.size, k, none⟩) (by simp; omega), World.cell?_drew, World.cell?_alloc_past _ _ _ (by simp), World.cell?_alloc_at _ _ _ _ rfl]
        exact HA.out k hkn
      have m2 : w'.cell? ⟨b, off + k, none⟩ = some (.int .u8 (f k)) := by
        rw [HB.out.cell (p := ⟨b, off + k, none⟩) (by simp; omega), World.cell?_drew, World.cell?_alloc_past _ _ _ (by simp; omega), World.cell?_alloc_past _ _ _ hb]
        exact HZ.out k hkn
      generalize f k = fk at m1 m2
      go_wp2
      go_quiet (fail)
      go_wp2
      go_roundw
      case rel => exact ⟨k + 1, _, by omega, by go_num, rfl⟩
      case measure => simp [intOf]; omega
    · go_wp2
      go_ret
      exact ⟨by simp, below_draws (((((Below.refl _ _).alloc (Nat.le_refl _) _).alloc (by simp) _).drew).trans (HB.out.mono (by simp; omega))) q⟩

theorem dec_view {bd o e ds : Nat} {f : Nat → Int} {w w' : World} (h : DecOk bd o e f w w' ds) :
    ∃ (ao : Option Addr) (cp g : Nat), g = w.heap.size + 1 ∧ w'.cell? ⟨ds, 3, none⟩ = some (.slice ao (e - (o + 4)) cp) ∧ (0 < e - (o + 4) → ao = some ⟨g, 0, none⟩) ∧ (∀ i, i < e - (o + 4) → w'.cell? ⟨g, i, none⟩ = some (.int .u8 (f (o + 4 + i)))) ∧ (0 < e - (o + 4) → w'.frozen? ⟨g, 0, none⟩ = false) ∧
      Below bd w w' ∧ w'.cell? ⟨ds, 0, none⟩ = some (.int .u16 (f o * 256 + f (o + 1))) ∧ w'.cell? ⟨ds, 1, none⟩ = some (.int .u8 (f (o + 2))) ∧ w'.cell? ⟨ds, 2, none⟩ = some (.int .u8 (f (o + 3))) ∧ w'.cell? ⟨bd, 1, none⟩ = some (.int .i64 e) := by
  obtain ⟨v, w0, w1, hB, hs, hC, hle, hcell, hfro, k0, k1, k2, k3, k4⟩ := h
  rcases hC with ⟨hm, rfl, rfl⟩ | ⟨hm, cap, A, rfl, hc, hA, rfl, hAi⟩
  · rw [hm]
    exact ⟨none, 0, _, rfl, k3, fun h => absurd h (by omega), fun i h => absurd h (by omega), fun h => absurd h (by omega), hB, k0, k1, k2, k4⟩
  · refine ⟨_, _, _, hs, k3, fun _ => rfl, fun i hi => ?_, fun _ => ?_, hB, k0, k1, k2, k4⟩
    · rw [hcell _ _ (by omega)]
      show (w0.drew.alloc (.cells A 5)).cell? ⟨w0.drew.heap.size, i, none⟩ = _
      rw [World.cell?_alloc_at _ _ _ _ rfl]
      exact hAi i hi
    · rw [hfro]
      show (w0.drew.alloc (.cells A 5)).frozen? ⟨w0.drew.heap.size, 0, none⟩ = _
      exact World.frozen?_alloc_at _ _ _ _ rfl

set_option maxRecDepth 100000 in
set_option maxHeartbeats 4000000 in
/-- The data is read. -/
theorem walk_ok (b off n cap o e : Nat) (f : Nat → Int) (x y : Int) (w : World) (hn0 : 0 < n) (hn : n ≤ 1024) (hx0 : 0 ≤ x) (hx : x ≤ 18446744073709551615) (hy0 : 0 ≤ y) (hy : y ≤ 18446744073709551615)
    (hb : b < w.heap.size) (hz : ∀ i, i < n → w.cell? ⟨b, off + i, none⟩ = some (.int .u8 (f i))) (hfb : ∀ i, i < n → 0 ≤ f i ∧ f i ≤ 255) (hxo : x % ((n : Int) + 1) = o) (hye : y % ((n : Int) + 1) = e) (ho : o ≤ n) (he : e ≤ n) (hle : o + 4 ≤ e) :
    Calls Ybad.prog 3 #[.slice (some ⟨b, off, none⟩) n cap, .int .u64 x, .int .u64 y] w fun e w' => e = .returned (.bool true) ∧ Below w.heap.size w w' := by
  have hta := run_ta
  have HZ := hide hz
  have HF := hide hfb
  clear hz hfb
  go_enter Ybad.func3, Ybad.ntmps3
  go_wp2_with (first | (refine wpList_copy rfl _ _ rfl rfl _ n cap b off f rfl (fun _ => rfl) HZ.out hn ?_; intro v w1 hc; obtain ⟨cp, A, rfl, hcp, hA, rfl, hAi⟩ := cop_pos hn0 hc; have HA := hide hAi; clear hc hAi) | (go_at_call 4; refine (dec_ok (w.heap.size + 1) w.heap.size n cp o e f _ (by go_simp) (by go_simp) (by go_simp) hle he hn hcp (fun i hi => by rw [World.cell?_drew, World.cell?_alloc_past _ _ _ (by simp), World.cell?_alloc_at _ _ _ _ rfl]; exact HA.out i hi) HF.out (by omega)).mono ?_; rintro r w' ⟨rfl, hD⟩; obtain ⟨ao, dcp, g, hgs, k3, hao, hgc, hgf, hB, k0, k1, k2, k4⟩ := dec_view hD; simp only [World.size_alloc, World.size_drew] at k0 k1 k2 k3 hgs; have HB := hide hB; have HAO := hide hao; have HGC := hide hgc; have HGF := hide hgf; have HGS := hide hgs; clear hB hD hao hgc hgf hgs))
  have HM : Hid (∀ k, k < n → w'.cell? ⟨w.heap.size, k, none⟩ = some (.int .u8 (f k))) := by
    intro k hkn
    rw [HB.out.cell (p := ⟨w.heap.size, k, none⟩) (by simp), World.cell?_drew, World.cell?_alloc_past _ _ _ (by simp), World.cell?_alloc_at _ _ _ _ rfl]
    exact HA.out k hkn
  have HS : Hid (∀ k, k < n → w'.cell? ⟨b, off + k, none⟩ = some (.int .u8 (f k))) := by
    intro k hkn
    rw [HB.out.cell (p := ⟨b, off + k, none⟩) (by simp; omega), World.cell?_drew, World.cell?_alloc_past _ _ _ (by simp; omega), World.cell?_alloc_past _ _ _ hb]
    exact HZ.out k hkn
  have HW : Hid (Below w.heap.size w w') := ((((Below.refl _ _).alloc (Nat.le_refl _) _).alloc (by simp) _).drew).trans (HB.out.mono (by omega))
  clear HA HZ HB
  go_loopw [16] (fun i wr => ∃ (k q : Nat), k ≤ n ∧ i = .int .i64 k ∧ wr = w'.drewN q) (fun i _ => n - (intOf i).toNat)
  case atStart => exact ⟨0, 0, Nat.zero_le _, rfl, rfl⟩
  case round =>
    obtain ⟨k, q, hk, rfl, rfl⟩ := hrel
    by_cases hkn : k < n
    · have m1 := HM.out k hkn
      have m2 := HS.out k hkn
      generalize f k = fk at m1 m2
      go_wp2
      go_quiet (fail)
      go_wp2
      go_roundw
      case rel => exact ⟨k + 1, _, by omega, by go_num, rfl⟩
      case measure => simp [intOf]; omega
    · have y0 := HM.out o (by omega)
      have y1 := HM.out (o + 1) (by omega)
      have y2 := HM.out (o + 2) (by omega)
      have y3 := HM.out (o + 3) (by omega)
      obtain ⟨b00, b01⟩ := HF.out o (by omega)
      obtain ⟨b10, b11⟩ := HF.out (o + 1) (by omega)
      generalize f o = f0 at y0 b00 b01 k0
      generalize f (o + 1) = f1 at y1 b10 b11 k0
      generalize f (o + 2) = f2 at y2 k1
      generalize f (o + 3) = f3 at y3 k2
      have h174 : (((e - (o + 4) : Nat) : Int) != (e : Int) - o - 4) = false := by
        have : ((e - (o + 4) : Nat) : Int) = (e : Int) - o - 4 := by omega
        rw [this]; simp
      go_wp2
      go_quiet (fail)
      go_wp2
      go_quiet (fail)
      go_wp2
      clear y0 y1 y2 y3 k0 k1 k2 k4 b00 b01 b10 b11
      go_loopw [17] (fun i wr => ∃ (k q : Nat), k ≤ e - (o + 4) ∧ i = .int .i64 k ∧ wr = w'.drewN q) (fun i _ => e - (o + 4) - (intOf i).toNat)
      case atStart => exact ⟨0, _, Nat.zero_le _, rfl, rfl⟩
      case round =>
        obtain ⟨t, q', ht, rfl, rfl⟩ := hrel
        by_cases htm : t < e - (o + 4)
        · obtain rfl := HAO.out (by omega)
          have c1 := HGC.out t htm
          have c2 := HM.out (o + 4 + t) (by omega)
          generalize f (o + 4 + t) = ft at c1 c2
          go_wp2
          go_quiet (fail)
          go_wp2
          go_roundw
          case rel => exact ⟨t + 1, _, by omega, by go_num, rfl⟩
          case measure => simp [intOf]; omega
        · by_cases hm : 0 < e - (o + 4)
          · obtain rfl := HAO.out hm
            have c1 := HGC.out 0 hm
            have cf := HGF.out hm
            have c2 := HM.out (o + 4) (by omega)
            have c3 := HS.out (o + 4) (by omega)
            obtain ⟨b40, b41⟩ := HF.out (o + 4) (by omega)
            rw [Nat.add_zero] at c1
            generalize f (o + 4) = f4 at c1 c2 c3 b40 b41
            have hgw : w.heap.size ≠ g := by have := HGS.out; omega
            have hgb : b ≠ g := by have := HGS.out; omega
            go_wp2
            go_quiet (fail)
            go_wp2
            go_ret
            exact ⟨by simp, below_draws (Below.setCell (p := ⟨g, 0, none⟩) (below_draws HW.out _) (by have := HGS.out; show w.heap.size ≤ g; omega) _) _⟩
          · go_wp2
            go_ret
            exact ⟨by simp, below_draws HW.out _⟩
end Go.Proofs.YbulkcwlmDoor
