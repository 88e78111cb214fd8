/-
  LawS4886AReorder: the clocks' row; the order of a set, looked up in later worlds; reorder at a set.
-/
import Derived.Test.YbulkcwdyReo
namespace Go.Proofs.Ybulkcwdy
open Go.RowKit Go.ChangeMaps

def keyB : Value → Nat
  | .pointer (some a) => a.block
  | _ => 0
def pfind (b : Nat) : List MapEntry → Nat → Option (Nat × Value)
  | [], _ => none
  | e :: es, i => if keyB e.key = b then some (i, e.val) else pfind b es (i + 1)

theorem find_ptr_eq {P : Program} (w : World) {kt te : TypeId} {j : TypeInfo} (hp : P.underlying kt = some (.pointer te)) (hte : P.info? te = some j) (hsz : j.size ≠ 0) (b : Nat) {t : TypeId} {xs : List Value} (hb : Row w b t xs) (es : List MapEntry)
    (hes : ∀ e ∈ es, ∃ b', e.key = .pointer (some ⟨b', 0, none⟩) ∧ ∃ t xs, Row w b' t xs) : (Instr.findKey kt (.pointer (some ⟨b, 0, none⟩)) es).run P w = .ok (pfind b es 0) w := by
  have eq1 : (Op.equal kt (.pointer (some ⟨b, 0, none⟩)) (.pointer (some ⟨b, 0, none⟩))).run P w = .ok true w := by
    have h : ∀ d : Nat, (Op.equalIn (d + 1) kt (.pointer (some ⟨b, 0, none⟩)) (.pointer (some ⟨b, 0, none⟩))).run P w = .ok true w := fun d => by
      simp [Op.equalIn, run_underlying hp, sizeOf, typeInfo, hte, run_sameAddr_same]
    simp [Op.equal, Op.maxDepth, h 9999]
  have eq2 : ∀ b' t' xs', b ≠ b' → Row w b' t' xs' → (Op.equal kt (.pointer (some ⟨b, 0, none⟩)) (.pointer (some ⟨b', 0, none⟩))).run P w = .ok false w := by
    intro b' t' xs' hne hr
    have hne' : (⟨b, 0, none⟩ : Addr) ≠ ⟨b', 0, none⟩ := fun x => hne (congrArg Addr.block x)
    have h : ∀ d : Nat, (Op.equalIn (d + 1) kt (.pointer (some ⟨b, 0, none⟩)) (.pointer (some ⟨b', 0, none⟩))).run P w = .ok false w := fun d => by
      simp [Op.equalIn, run_underlying hp, sizeOf, typeInfo, hte, hsz, run_sameAddr_other w hne' hb hr]
    simp [Op.equal, Op.maxDepth, h 9999]
  have ask : ∀ (es : List MapEntry) (i : Nat), (∀ e ∈ es, ∃ b', e.key = .pointer (some ⟨b', 0, none⟩) ∧ ∃ t xs, Row w b' t xs) → (Instr.findAsking kt (.pointer (some ⟨b, 0, none⟩)) es i).run P w = .ok (pfind b es i) w := by
    intro es
    induction es with
    | nil => intro i _; simp [Instr.findAsking, pfind]
    | cons e es ih =>
      intro i h
      obtain ⟨b', hk, t', xs', hr⟩ := h e (by simp)
      by_cases hbb : b = b'
      · subst hbb
        simp [Instr.findAsking, hk, eq1, pfind, keyB]
      · have hbb' : ¬ b' = b := fun e => hbb e.symm
        simp [Instr.findAsking, hk, eq2 b' t' xs' hbb hr, ih (i + 1) (fun e' he' => h e' (by simp [he'])), pfind, keyB, hbb']
  cases es with
  | nil => simp [Instr.findKey, run_underlying hp, Instr.findNow, pfind]
  | cons e es =>
    have : Instr.findNow (.pointer te) (.pointer (some ⟨b, 0, none⟩)) (e :: es) 0 = none := by simp [Instr.findNow, Instr.sameNow]
    have hfk : (Instr.findKey kt (.pointer (some ⟨b, 0, none⟩)) (e :: es)).run P w = (Instr.findAsking kt (.pointer (some ⟨b, 0, none⟩)) (e :: es) 0).run P w := by
      simp [Instr.findKey, run_underlying hp, this]
    rw [hfk]
    exact ask (e :: es) 0 hes

/-- The order of set i, in whatever later world that spares the map and the sets' boxes. -/
theorem look_stable {w0 w : World} {N E mvb mb smb ord psb ksb osb : Nat} {mv : List Int} {plf : Nat → List Int} {pb rb ob : Nat → Nat} {seen : List Nat} {os : List (Nat × Value)} (h : Aft w0 w N E mvb mb smb ord psb ksb osb mv plf pb rb ob seen os) {i : Nat} (hi : i < N) :
    (isS (mapd mv (plf i)) = true ∧ ∀ (w' : World) (S : Nat → Prop), Spare S w w' → (∀ j, j < N → ¬ S (pb j)) → ¬ S ord → (Instr.lookup 35 (.map (some ord)) (.pointer (some ⟨pb i, 0, none⟩)) false).run Yba.prog w' = .ok (.slice none 0 0) w') ∨
    (isS (mapd mv (plf i)) = false ∧ ∃ v, OrdRow w E (mapd mv (plf i)) v ∧ ∀ (w' : World) (S : Nat → Prop), Spare S w w' → (∀ j, j < N → ¬ S (pb j)) → ¬ S ord → (Instr.lookup 35 (.map (some ord)) (.pointer (some ⟨pb i, 0, none⟩)) false).run Yba.prog w' = .ok v w') := by
  obtain ⟨ti, hti, _, hts, _⟩ := info_parts (show (Yba.prog.info? 41).map (fun i => (i.zero, i.size, i.bytes)) = some (some (.agg #[.slice none 0 0]), 1, 24) by kernel_rfl)
  have rw' : ∀ (w' : World) (S : Nat → Prop), Spare S w w' → (∀ j, j < N → ¬ S (pb j)) → ∀ j, j < N → ∃ t xs, Row w' (pb j) t xs := fun w' S hs hS j hj => by
    obtain ⟨_, ⟨_, _, r1, _⟩, _⟩ := h.mvd.done j (h.hall j hj)
    exact ⟨_, _, r1.spare hs (hS j hj)⟩
  have run : ∀ (w' : World) (S : Nat → Prop), Spare S w w' → (∀ j, j < N → ¬ S (pb j)) → (Instr.findKey 34 (.pointer (some ⟨pb i, 0, none⟩)) (oEnts os)).run Yba.prog w' = .ok (pfind (pb i) (oEnts os) 0) w' := fun w' S hs hS => by
    obtain ⟨t, xs, hr⟩ := rw' w' S hs hS i hi
    exact find_ptr_eq w' Yba.underlying34 hti (by rw [hts]; decide) (pb i) hr (oEnts os) (fun e he => by
      obtain ⟨p, hp, h1, _⟩ := oEnts_mem he
      obtain ⟨j, h2, h3, _⟩ := h.mvd.all p hp
      exact ⟨p.1, h1, by rw [h3]; exact rw' w' S hs hS j (h.mvd.lt j h2)⟩)
  obtain ⟨r, hr, h1⟩ := h.mvd.look h.rank h.hall hi
  have hr0 : r = pfind (pb i) (oEnts os) 0 := by
    have := run w Non (Spare.refl _ w) (fun _ _ => id)
    rw [hr] at this
    simpa using this
  have look : ∀ (w' : World) (S : Nat → Prop), Spare S w w' → (∀ j, j < N → ¬ S (pb j)) → ¬ S ord → (Instr.lookup 35 (.map (some ord)) (.pointer (some ⟨pb i, 0, none⟩)) false).run Yba.prog w' = .ok ((r.map (·.2)).getD (.slice none 0 0)) w' := fun w' S hs hS ho => by
    have hM := h.mvd.ordm.spare hs ho
    have hz : (zeroValue 22).run Yba.prog w' = .ok (.slice none 0 0) w' := by kernel_rfl
    have hf := run w' S hs hS
    rw [← hr0] at hf
    cases r with
    | none => simp [Instr.lookup, run_underlying Yba.underlying35, MapKept.run_getObj_map hM, check_ptr w' Yba.underlying34, hf, hz, Result.andThen]
    | some p => simp [Instr.lookup, run_underlying Yba.underlying35, MapKept.run_getObj_map hM, check_ptr w' Yba.underlying34, hf, Result.andThen]
  rcases h1 with ⟨h1, rfl⟩ | ⟨h1, k, v, rfl, h2⟩
  · exact .inl ⟨h1, look⟩
  · exact .inr ⟨h1, v, h2, look⟩

/-- The clocks' row. -/
def ck (pb cb ln : Nat → Nat) (i k : Nat) : Value := if k / 2 < i then (if k % 2 = 0 then .pointer (some ⟨pb (k / 2), 0, none⟩) else .slice (some ⟨cb (k / 2), 0, none⟩) (ln (k / 2)) (ln (k / 2))) else (if k % 2 = 0 then .pointer none else .slice none 0 0)
def clk (pb cb ln : Nat → Nat) (i N : Nat) : List Value := (List.range (N * 2)).map (ck pb cb ln i)
theorem clk_get {pb cb ln : Nat → Nat} {i N k : Nat} (hk : k < N * 2) : (clk pb cb ln i N)[k]? = some (ck pb cb ln i k) := by simp [clk, hk]
theorem clk_set (pb cb ln : Nat → Nat) (i N b : Nat) : ((clk pb cb ln i N).set (i * 2) (.pointer (some ⟨pb i, 0, none⟩))).set (i * 2 + 1) (.slice (some ⟨b, 0, none⟩) (ln i) (ln i)) = clk pb (upd cb i b) ln (i + 1) N := by
  apply List.ext_getElem
  · simp [clk]
  · intro k h1 h2
    rw [List.getElem_set, List.getElem_set]
    simp only [clk, List.getElem_map, List.getElem_range]
    by_cases e1 : i * 2 + 1 = k
    · have a1 : k / 2 = i := by omega
      have a2 : ¬ k % 2 = 0 := by omega
      rw [if_pos e1]
      simp [ck, a1, a2, upd]
    · by_cases e0 : i * 2 = k
      · have a1 : k / 2 = i := by omega
        have a2 : k % 2 = 0 := by omega
        rw [if_neg e1, if_pos e0]
        simp [ck, a1, a2]
      · rw [if_neg e1, if_neg e0]
        have a1 : k / 2 ≠ i := by omega
        have a3 : (k / 2 < i + 1) = (k / 2 < i) := by simp only [eq_iff_iff]; omega
        simp [ck, upd, a1, a3]

theorem info49 : (Yba.prog.info? 49).map (fun i => (i.zero, i.size, i.bytes)) = some (some (.agg #[.pointer none, .slice none 0 0]), 2, 32) := by kernel_rfl
theorem made2 (pb cb ln : Nat → Nat) (n : Nat) : madeCells #[.pointer none, .slice none 0 0] (n * 2) = (clk pb cb ln 0 n).toArray := by
  apply Array.ext
  · simp [madeCells, clk]
  · intro k h1 h2
    have hk : k % 2 = 0 ∨ k % 2 = 1 := by omega
    rcases hk with hk | hk <;> simp [madeCells, clk, ck, hk]

theorem L_make2 (w : World) {ops : Array Oper} {rest : List Oper} {o : Oper} {a : Act} {Q : Exit → Act → World → Prop} (hg : o.guard = none) (l c : Operand) (hop : o.op = .makeSlice 46 l c) (kl kc : IntKind) (L C : Int) (n : Nat) (hl : a.eval l = .int kl L) (hc : a.eval c = .int kc C) (hL : L = n) (hC : C = n) (hn : n ≤ 1048576)
    (pb cb ln : Nat → Nat) (hK : ∀ w' b, Hid (b = w.heap.size) → Row w' b 49 (clk pb cb ln 0 n) → Spare Non w w' → wpList Yba.prog ops Q rest (a.put o.dst (.slice (some ⟨b, 0, none⟩) n n)) w') : wpList Yba.prog ops Q (o :: rest) a w := by
  obtain ⟨i, hi, hz0, hz1, hz2⟩ := info_parts info49
  refine wpList_plain hg fun K hK' => ?_
  have hr := run_make (P := Yba.prog) w 46 49 i _ Yba.underlying46 hi hz0 kl kc n n (by omega) (by omega) (by rw [hz2]; omega) (by omega)
  subst hL; subst hC
  unfold Oper.wp
  simp only [execOp, hop, hl, hc, hr, Result.andThen, Sem.run_bind, Int.toNat_natCast, hz1, Value.cells, made2 pb cb ln]
  exact hK' _ _ (hK _ _ rfl (Row.alloc w 49 _) (Spare.alloc _ w _))

structure Cbs (N H cl mb : Nat) (pb cb : Nat → Nat) : Prop where
  lt : ∀ j, j < N → cl < cb j ∧ cb j < H
  inc : ∀ j k, j < k → k < N → cb j < cb k
  big : ∀ j, j < N → pb j < cl
  m : mb < cl ∧ cl < H

theorem getD_range (zs : List Int) : ((List.range zs.length).map fun i => zs.getD i 0) = zs := by
  apply List.ext_getElem
  · simp
  · intro i h1 h2
    simp [h2]

set_option maxHeartbeats 1000000 in
theorem reorder_at {w0 w5 w6 : World} {N E mvb mb smb ord psb ksb osb cl : Nat} {mv : List Int} {plf : Nat → List Int} {pb rb ob cb : Nat → Nat} {seen : List Nat} {os : List (Nat × Value)} (h : Aft w0 w5 N E mvb mb smb ord psb ksb osb mv plf pb rb ob seen os) {i : Nat} (hi : i < N) (C : Cbs N w0.heap.size cl mb pb cb)
    (hs : Spare (fun k => k = mb ∨ ∃ j, j < i ∧ k = cb j) w5 w6) {zs : List Int} (hz : Hid (plf i = zs)) {L : Nat} (hL : Hid (zs.length = L)) (hL2 : L ≤ 1024) {scr : Value} {n : Nat} {xs : List Value} (hm : Row w6 mb 39 [.map (some smb), .pointer none, .map (some ord), .slice none 0 0, scr]) (hown : w6.ownsRow w5.heap.size 47 1 scr n xs) (hc : Row w6 (cb i) 47 (zs.map (Value.int .u64))) :
    Calls Yba.prog 11 #[.pointer (some ⟨mb, 0, none⟩), .agg #[.pointer (some ⟨pb i, 0, none⟩), .slice (some ⟨cb i, 0, none⟩) L L]] w6 fun e w' => e = .returned (.tuple #[]) ∧
      (∃ perm : List Nat, perm.Perm (List.range L) ∧ (perm.map fun j => (mapd mv zs).getD j 0) = sortd (mapd mv zs) ∧ Row w' (cb i) 47 ((perm.map fun j => zs.getD j 0).map (Value.int .u64))) ∧
      (∃ scr' n' xs', Row w' mb 39 [.map (some smb), .pointer none, .map (some ord), .slice none 0 0, scr'] ∧ w'.ownsRow w5.heap.size 47 1 scr' n' xs') ∧ Spare (fun k => k = mb ∨ k = cb i ∨ some k = scr.ownBlock) w6 w' := by
  have hz' : plf i = zs := hz
  have hL' : zs.length = L := hL
  subst hz' hL'
  have km := h.rank.m
  have ko := h.mvd.ord0
  have cm := C.m
  have ci := C.lt i hi
  have l5 := h.mvd.sp.size
  have lo := h.mvd.ordm.lt
  have nS1 : ∀ j, j < N → ¬ (pb j = mb ∨ ∃ j', j' < i ∧ pb j = cb j') := fun j hj e => by
    have := h.rank.a j hj
    rcases e with e | ⟨j', hj', e⟩
    · omega
    · have := C.lt j' (by omega)
      have := C.big j hj
      omega
  have nS2 : ∀ k, w0.heap.size ≤ k → ¬ (k = mb ∨ ∃ j', j' < i ∧ k = cb j') := fun k hk e => by
    rcases e with e | ⟨j', hj', e⟩
    · omega
    · have := C.lt j' (by omega); omega
  rcases look_stable h hi with ⟨h1, h2⟩ | ⟨h1, v, ⟨ordb, perm, rfl, hb, hr, hp, ho⟩, h2⟩
  · refine (reorder_nil mb (pb i) (cb i) (plf i).length ord _ _ _ scr w6 hm (fun w' hw => h2 w' _ (hs.off hw) nS1 (nS2 _ (by omega)))).mono fun e w' ⟨he, hsp⟩ => ⟨he, ⟨List.range (plf i).length, List.Perm.refl _, ?_, ?_⟩, ⟨scr, n, xs, hm.spare hsp id, own_keep hown hsp (fun _ _ => id)⟩, hsp.mono (fun _ _ e => absurd e id)⟩
    · have he2 : mapd mv (plf i) = sortd (mapd mv (plf i)) := by simpa [isS] using h1
      rw [← he2]
      have := getD_range (mapd mv (plf i))
      rw [mapd_length] at this
      exact this
    · rw [getD_range]
      exact hc.spare hsp id
  · rw [mapd_length] at hp h2
    have hlo := hr.lt
    have h0 : 0 < (plf i).length := by
      rcases Nat.eq_zero_or_pos (plf i).length with h0 | h0
      · have : plf i = [] := List.eq_nil_of_length_eq_zero h0
        rw [this] at h1
        simp [isS, mapd, sortd] at h1
      · exact h0
    refine (reorder_perm mb (pb i) (cb i) (plf i).length ord ordb w5.heap.size n _ _ _ scr (plf i) perm xs w6 hm (fun w' hw => h2 w' _ (hs.off hw) nS1 (nS2 _ (by omega))) hc (hr.spare hs (nS2 _ (by omega))) rfl h0 hL2 hp hown ⟨by omega, by omega, by omega, hs.size⟩ ⟨by omega, by omega, by omega⟩).mono fun e w' ⟨he, r1, r2, r3⟩ => ⟨he, ⟨perm, hp, ho, r1⟩, r2, r3⟩

theorem fin_rows {w0 w5 wl : World} {B0 N E mvb mb smb ord psb ksb osb cl : Nat} {mv : List Int} {plf : Nat → List Int} {pb rb ob cb : Nat → Nat} {seen : List Nat} {os : List (Nat × Value)} (h : Aft w0 w5 N E mvb mb smb ord psb ksb osb mv plf pb rb ob seen os) (B : Built w0 B0 N N plf mb smb psb ksb osb pb rb ob) (hmvb : mvb < B0) (hE : w0.heap.size ≤ E) {i : Nat} (hi : i < N) (C : Cbs N w0.heap.size cl mb pb cb)
    (hs : Spare (fun k => k = mb ∨ ∃ j, j < i ∧ k = cb j) w5 wl) {zs : List Int} (hz : Hid (plf i = zs)) {L : Nat} (hL : Hid (zs.length = L)) (HC : Row w5 cl 49 (clk pb cb (fun j => (plf j).length) N N)) (HR : ∀ j, j < N → Row w5 (cb j) 47 ((plf j).map (Value.int .u64))) :
    Row wl psb 34 ((List.range N).map (fun j => .pointer (some ⟨pb j, 0, none⟩))) ∧ Row wl osb 22 ((List.range N).map (fun j => .slice (some ⟨ob j, 0, none⟩) (plf j).length (plf j).length)) ∧ Row wl (ob i) 3 (zs.map (Value.int .i64)) ∧ Row wl mvb 3 (mv.map (Value.int .i64)) ∧
    (∃ rb' cp rest, Row wl (pb i) 41 [.slice (some ⟨rb', 0, none⟩) L cp] ∧ Row wl rb' 3 ((sortd (mapd mv zs)).map (Value.int .i64) ++ rest) ∧ rb' ≠ mb ∧ rb' ≠ cb i ∧ rb' < w5.heap.size) ∧ Row wl cl 49 (clk pb cb (fun j => (plf j).length) N N) ∧ Row wl (cb i) 47 (zs.map (Value.int .u64)) ∧
    (psb ≠ mb ∧ osb ≠ mb ∧ ob i ≠ mb ∧ mvb ≠ mb ∧ pb i ≠ mb ∧ cb i ≠ mb) ∧ (psb ≠ cb i ∧ osb ≠ cb i ∧ ob i ≠ cb i ∧ mvb ≠ cb i ∧ pb i ≠ cb i) := by
  have hz' : plf i = zs := hz
  have hL' : zs.length = L := hL
  subst hz' hL'
  have o1 := B.o1
  have o2 := B.o2 i hi
  have ci := C.lt i hi
  have cb' := C.big i hi
  have cm := C.m
  have km := h.rank.m
  have l5 := h.mvd.sp.size
  have no : ∀ k, k ≠ mb → (k ≤ cl ∨ w0.heap.size ≤ k) → ¬ (k = mb ∨ ∃ j, j < i ∧ k = cb j) := fun k h1 h2 e => by
    rcases e with e | ⟨j, hj, e⟩
    · exact h1 e
    · have := C.lt j (by omega); omega
  obtain ⟨rb', ⟨cp, rest, r1, r2⟩, hrb⟩ := h.mvd.done i (h.hall i hi)
  rw [sortd_length, mapd_length] at r1
  have lr := r2.lt
  refine ⟨h.ps.spare hs (no _ (by omega) (by omega)), h.os.spare hs (no _ (by omega) (by omega)), (h.olds i hi).spare hs (no _ (by omega) (by omega)), h.mvr.spare hs (no _ (by omega) (by omega)), ⟨rb', cp, rest, r1.spare hs (no _ (by omega) (by omega)), r2.spare hs (no _ (by omega) (by omega)), by omega, by omega, lr⟩, HC.spare hs (no _ (by omega) (by omega)), (HR i hi).spare hs (fun e => ?_), by omega, by omega⟩
  rcases e with e | ⟨j, hj, e⟩
  · omega
  · have := C.inc j i hj hi; omega
theorem behind_reo {a l mb cbi : Nat} {ow : Option Nat} {w6 w7 : World} (S7 : Spare (fun k => k = mb ∨ k = cbi ∨ some k = ow) w6 w7) (hO : ∀ k, some k = ow → a ≤ k ∧ k < l) {k : Nat} {e : TypeId} {xs : List Value} (R : Row w6 k e xs) (h1 : k ≠ mb) (h2 : k ≠ cbi) (h3 : k < a ∨ l ≤ k) : Row w7 k e xs :=
  R.spare S7 (fun e => by
    rcases e with e | e | e
    · exact h1 e
    · exact h2 e
    · have := hO k e; omega)
theorem own_block {w : World} {base : Nat} {v : Value} {n : Nat} {xs : List Value} (h : w.ownsRow base 47 1 v n xs) {k : Nat} (hk : some k = v.ownBlock) : base ≤ k ∧ k < w.heap.size := by
  rcases h.2 with ⟨rfl, rfl⟩ | ⟨g, cap, cur, rfl, h1, h2, _⟩
  · cases hk
  · have e : k = g := by simpa [Value.ownBlock] using hk
    subst e
    exact ⟨h1, (Array.getElem?_eq_some_iff.1 h2).1⟩
end Go.Proofs.Ybulkcwdy
