/-
  Rows, maps, and what a step spares.
-/
import Derived.Test.YbulkcwdySearch
import Derived.OwnWalk
import Derived.Laws.CopyOwn
import Derived.Maps.RangeRun
import Derived.LaidEqlPtr
import Derived.Sort.Grow
import Derived.Great.BuildSlice
import Derived.Deep.Draws
import Derived.Maps.Keyed
namespace Go.Proofs.Ybulkcwdy
open Go.RowKit Go.ChangeMaps

/-- What was there before, but for the blocks of S, is as it was. -/
structure Spare (S : Nat → Prop) (w w' : World) : Prop where
  os : w'.os = w.os
  tape : w'.tape = w.tape
  output : w'.output = w.output
  size : w.heap.size ≤ w'.heap.size
  block : ∀ k, k < w.heap.size → ¬ S k → w'.heap[k]? = w.heap[k]?
def Non (_ : Nat) : Prop := False
def One (b k : Nat) : Prop := k = b

theorem Spare.refl (S : Nat → Prop) (w : World) : Spare S w w := ⟨rfl, rfl, rfl, Nat.le_refl _, fun _ _ _ => rfl⟩
theorem Spare.then {S S1 S2 : Nat → Prop} {a b c : World} (h1 : Spare S1 a b) (h2 : Spare S2 b c) (k1 : ∀ k, k < a.heap.size → S1 k → S k) (k2 : ∀ k, k < a.heap.size → S2 k → S k) : Spare S a c :=
  ⟨h2.os.trans h1.os, h2.tape.trans h1.tape, h2.output.trans h1.output, Nat.le_trans h1.size h2.size, fun k hk hS =>
    (h2.block k (Nat.lt_of_lt_of_le hk h1.size) (fun h => hS (k2 k hk h))).trans (h1.block k hk (fun h => hS (k1 k hk h)))⟩
theorem Spare.mono {S S' : Nat → Prop} {a b : World} (h : Spare S a b) (k : ∀ k, k < a.heap.size → S k → S' k) : Spare S' a b := ⟨h.os, h.tape, h.output, h.size, fun i hi hS => h.block i hi (fun x => hS (k i hi x))⟩
/-- A step that spares all but one new block, or nothing. -/
theorem Spare.on {S : Nat → Prop} {a b c : World} {g : Nat} (h1 : Spare S a b) (h2 : Spare (One g) b c) (hg : g < a.heap.size → S g) : Spare S a c :=
  h1.then h2 (fun _ _ h => h) (fun k hk h => by obtain rfl : k = g := h; exact hg hk)
theorem Spare.off {S : Nat → Prop} {a b c : World} (h1 : Spare S a b) (h2 : Spare Non b c) : Spare S a c := h1.then h2 (fun _ _ h => h) (fun _ _ h => absurd h id)
theorem Spare.drew (S : Nat → Prop) (w : World) : Spare S w w.drew := ⟨rfl, rfl, rfl, Nat.le_refl _, fun _ _ _ => rfl⟩
theorem Spare.drewN (S : Nat → Prop) (w : World) (q : Nat) : Spare S w (w.drewN q) := ⟨rfl, rfl, rfl, Nat.le_refl _, fun _ _ _ => rfl⟩
theorem Spare.below {S : Nat → Prop} {W w' : World} (h : Spare S W w') (hS : ∀ k, k < W.heap.size → ¬ S k) : Below W.heap.size W w' := ⟨h.os, h.tape, h.output, h.size, fun k hk => h.block k hk (hS k hk)⟩
theorem Spare.ofBelow {S : Nat → Prop} {W w' : World} (h : Below W.heap.size W w') : Spare S W w' := ⟨h.os, h.tape, h.output, h.size, fun k hk _ => h.block k hk⟩
theorem Spare.alloc (S : Nat → Prop) (w : World) (o : Obj) : Spare S w (w.alloc o) := ⟨rfl, rfl, rfl, by simp, fun k hk _ => Below.heap_alloc w o k hk⟩
theorem Spare.setCell (w : World) (p : Addr) (u : Value) : Spare (One p.block) w (w.setCell p u) := ⟨rfl, rfl, rfl, by simp [World.setCell], fun k _ hS => Below.heap_setCell w p u k hS⟩
theorem Spare.setRow (w : World) (g : Nat) (cs : Array Value) : Spare (One g) w (w.setRow g cs) := ⟨rfl, rfl, rfl, by simp [World.setRow], fun k _ hS => setRow_other w g k cs hS⟩
theorem Spare.setBlock (w : World) (g : Nat) (o : Obj) : Spare (One g) w (setBlock w g o) := ⟨rfl, rfl, rfl, by simp [ChangeMaps.setBlock], fun k _ hS => by
  have : g ≠ k := fun e => hS e.symm
  simp [ChangeMaps.setBlock, this]⟩

/-- Block b is a row of these cells; of nothing is frozen. -/
def Row (w : World) (b : Nat) (e : TypeId) (xs : List Value) : Prop := w.heap[b]? = some (.cells xs.toArray e (0, 0))
def Mp (w : World) (b : Nat) (es : List MapEntry) (clock : Nat) : Prop := w.heap[b]? = some (.map es.toArray clock)
theorem Row.lt {w : World} {b : Nat} {e : TypeId} {xs : List Value} (h : Row w b e xs) : b < w.heap.size := (Array.getElem?_eq_some_iff.1 h).1
theorem Mp.lt {w : World} {b c : Nat} {es : List MapEntry} (h : Mp w b es c) : b < w.heap.size := (Array.getElem?_eq_some_iff.1 h).1
theorem Row.spare {S : Nat → Prop} {w w' : World} {b : Nat} {e : TypeId} {xs : List Value} (h : Row w b e xs) (hs : Spare S w w') (hb : ¬ S b) : Row w' b e xs := (hs.block b h.lt hb).trans h
theorem Mp.spare {S : Nat → Prop} {w w' : World} {b c : Nat} {es : List MapEntry} (h : Mp w b es c) (hs : Spare S w w') (hb : ¬ S b) : Mp w' b es c := (hs.block b h.lt hb).trans h
theorem Row.cell {w : World} {b : Nat} {e : TypeId} {xs : List Value} (h : Row w b e xs) {j : Nat} {v : Value} (hj : xs[j]? = some v) : w.cell? ⟨b, j, none⟩ = some v := by
  unfold Row at h
  simp [World.cell?, h, hj]
theorem Row.frozen {w : World} {b : Nat} {e : TypeId} {xs : List Value} (h : Row w b e xs) (j : Nat) : w.frozen? ⟨b, j, none⟩ = false := by
  unfold Row at h
  simp [World.frozen?, h]
theorem Row.set {w : World} {b : Nat} {e : TypeId} {xs : List Value} (h : Row w b e xs) (j : Nat) (v : Value) : Row (w.setCell ⟨b, j, none⟩ v) b e (xs.set j v) := by
  have hlt := h.lt
  unfold Row at h ⊢
  simp only [World.setCell, Array.getElem?_modify, if_true, h, Option.map_some]
  simp
theorem Row.alloc (w : World) (e : TypeId) (xs : List Value) : Row (w.alloc (.cells xs.toArray e)) w.heap.size e xs := by
  unfold Row
  exact (MapKept.heap_alloc w _).1
theorem Row.put {α : Type} [Inhabited α] {w : World} {b : Nat} {e : TypeId} {ds : List α} {xs rest : List Value} (enc : α → Value) (h : Row w b e (xs ++ rest)) (hl : ds.length = xs.length) : Row (Sort.putRow enc w b 0 ds.toArray) b e (ds.map enc ++ rest) := by
  unfold Row at h ⊢
  simp only [Sort.putRow, Sort.mapBlock, Array.getElem?_modify, if_true, h, Option.map_some, Sort.onCells]
  congr 2
  apply Array.ext_getElem?
  intro k
  simp only [Sort.putCells, Array.getElem?_mapIdx]
  simp only [List.getElem?_toArray, List.size_toArray]
  by_cases hk : k < ds.length
  · rw [List.getElem?_append_left (by omega), List.getElem?_append_left (by simpa using hk)]
    simp [hk, List.getElem?_eq_getElem (show k < xs.length by omega)]
  · rw [List.getElem?_append_right (by omega), List.getElem?_append_right (by simpa using hk)]
    simp only [List.length_map, hl]
    cases hx : rest[k - xs.length]? with
    | none => rfl
    | some v => simp [show ¬ k < xs.length by omega]
theorem Spare.put {α : Type} [Inhabited α] (w : World) (b n : Nat) (d : Array α) (os : Array Obj) (enc : α → Value) : Spare (One b) w (Sort.grow (Sort.putRow enc (Sort.ahead w n) b 0 d) os) := by
  refine ⟨rfl, rfl, rfl, ?_, fun k hk hS => ?_⟩
  · simp [Sort.putRow, Sort.mapBlock, Sort.ahead]
  · rw [Sort.heap_grow_old _ _ (by simpa [Sort.putRow, Sort.mapBlock, Sort.ahead] using hk)]
    have : b ≠ k := fun e => hS e.symm
    simp only [Sort.putRow, Sort.mapBlock, Sort.ahead, Array.getElem?_modify, if_neg this]
theorem Row.grow {w : World} {b : Nat} {e : TypeId} {xs : List Value} (h : Row w b e xs) (os : Array Obj) : Row (Sort.grow w os) b e xs := (Sort.heap_grow_old w os h.lt).trans h
theorem Row.holds {w : World} {b : Nat} {e : TypeId} {ds : List Int} {rest : List Value} (h : Row w b e (ds.map (Value.int .i64) ++ rest)) : Sort.Holds (Value.int .i64) w b 0 ds.toArray := by
  intro j hj
  have hj' : j < ds.length := by simpa using hj
  rw [Nat.zero_add]
  refine ⟨h.cell ?_, h.frozen j⟩
  rw [List.getElem?_append_left (by simpa using hj')]
  simp [hj']

section
variable {P : Program} (w : World) {ops : Array Oper} {rest : List Oper} {o o2 : Oper} {a : Act} {Q : Exit → Act → World → Prop}

theorem made_rep (z : Value) (hz : z.cells = #[z]) (n : Nat) : madeCells z.cells n = (List.replicate n z).toArray := by
  rw [hz]
  apply Array.ext (by simp [madeCells])
  intro i h1 h2
  simp [madeCells, Nat.mod_one]

/-- 'make([]T, m, n)'. -/
theorem L_make (hg : o.guard = none) (l c : Operand) (t : TypeId) (hop : o.op = .makeSlice t l c) (e : TypeId) (z : Value) (bytes : Nat) (h1 : P.underlying t = some (.slice e))
    (hinfo : (P.info? e).map (fun i => (i.zero, i.size, i.bytes)) = some (some z, 1, bytes)) (hz : z.cells = #[z]) (kl kc : IntKind) (L C : Int) (m n : Nat) (hl : a.eval l = .int kl L) (hc : a.eval c = .int kc C) (hL : L = m) (hC : C = n) (hmn : m ≤ n) (hn : n ≤ 1048576) (hb : bytes ≤ 64)
    (hK : ∀ w' b, Hid (b = w.heap.size) → Row w' b e (List.replicate n z) → Spare Non w w' → wpList P ops Q rest (a.put o.dst (.slice (some ⟨b, 0, none⟩) m n)) w') : wpList P ops Q (o :: rest) a w := by
  obtain ⟨i, hi, hz0, hz1, hz2⟩ := info_parts hinfo
  refine wpList_plain hg fun K hK' => ?_
  have hbn : bytes * n ≤ 64 * 1048576 := Nat.mul_le_mul hb hn
  have hr := run_make (P := P) w t e i z h1 hi hz0 kl kc m n (by omega) (by omega) (by rw [hz2, ← Int.natCast_mul]; omega) (by omega)
  subst hL; subst hC
  unfold Oper.wp
  simp only [execOp, hop, hl, hc, hr, Result.andThen, Sem.run_bind, Int.toNat_natCast, hz1, Nat.mul_one, made_rep z hz]
  exact hK' _ _ (hK _ _ rfl (Row.alloc w e _) (Spare.alloc _ w _))

/-- 's = append(s, x)' within the capacity: the literal slice and the append. -/
theorem L_push (hg : o.guard = none) (x : Operand) (t : TypeId) (hop : o.op = .buildSlice t 1 #[(0, x)]) (hg2 : o2.guard = none) (s y : Operand) (hop2 : o2.op = Op.call { callee := Callee.builtin Builtin.append, args := #[s, y], argTypes := #[t, t] })
    (e : TypeId) (z : Value) (bytes : Nat) (h1 : P.underlying t = some (.slice e)) (hinfo : (P.info? e).map (fun i => (i.zero, i.size, i.bytes)) = some (some z, 1, bytes)) (hz : z.cells = #[z]) (v : Value) (hv : a.eval x = v) (hvc : v.cells = #[v]) (hv1 : v.oneCell' = true)
    (g k cap : Nat) (hs : (a.put o.dst (.slice (some ⟨w.heap.size, 0, none⟩) 1 1)).eval s = .slice (some ⟨g, 0, none⟩) k cap) (hy : (a.put o.dst (.slice (some ⟨w.heap.size, 0, none⟩) 1 1)).eval y = .slice (some ⟨w.heap.size, 0, none⟩) 1 1)
    (xs : List Value) (hR : Row w g e xs) (hk : k < cap) (hcap : xs.length = cap)
    (hK : ∀ w', Row w' g e (xs.set k v) → Spare (One g) w w' → wpList P ops Q rest ((a.put o.dst (.slice (some ⟨w.heap.size, 0, none⟩) 1 1)).put o2.dst (.slice (some ⟨g, 0, none⟩) (k + 1) cap)) w') : wpList P ops Q (o :: o2 :: rest) a w := by
  obtain ⟨i, hi, hz0, hz1, hz2⟩ := info_parts hinfo
  have hlt := hR.lt
  have hf : Instr.fill (fun i' => some (i' * i.size, i.size)) ((Array.range (1 * i.size)).map (z.cells[· % z.cells.size]!)) (#[(0, x)].map fun (i, x) => (i, a.eval x)).toList = some #[v] := by
    have hr1 : ((Array.range (1 * i.size)).map (z.cells[· % z.cells.size]!)) = #[z] := by
      rw [hz1, hz]
      apply Array.ext (by simp)
      intro i h1 h2
      simp [Nat.mod_one]
    rw [hr1]
    simp [hz1, hv, Instr.fill, hvc]
  refine wpList_buildSlice hg t e 1 _ hop #[v] i z h1 hi hz0 (by rw [hz1]; decide) (by rw [hz1]; decide) hf ?_
  refine wpList_plain hg2 fun K hK' => ?_
  have hR1 : Row (w.alloc (.cells #[v] e)) g e xs := hR.spare (Spare.alloc Non w _) id
  have hT : Row (w.alloc (.cells #[v] e)) w.heap.size e [v] := Row.alloc w e [v]
  have hr := run_append_room (P := P) (w.alloc (.cells #[v] e)) t o2.type e i h1 hi g k cap xs.toArray hR1 ⟨w.heap.size, 0, none⟩ 1 1 [v] (by rw [hz1]; rfl) (fun j u hj => by
    have hj0 : j = 0 := by have := (List.getElem?_eq_some_iff.1 hj).1; simp at this; omega
    subst hj0
    simpa [Addr.add] using hT.cell hj) (by simpa using hv1) (by omega) (by rw [hz1]; simp; omega)
  unfold Oper.wp
  have hset : (xs.toArray.toList.take (k * i.size) ++ [v] ++ xs.toArray.toList.drop (k * i.size + [v].length)) = xs.set k v := by
    rw [List.set_eq_take_append_cons_drop, if_pos (by omega), hz1]
    simp
  rw [hset] at hr
  simp [execOp, hop2, resolve, invoke, builtin, hs, hy, hr, Result.andThen]
  refine hK' _ _ (hK _ ?_ ((Spare.alloc (One g) w (.cells #[v] e)).on (Spare.setRow _ g _) (fun _ => rfl)))
  exact setRow_heap (w.alloc (.cells #[v] e)) g xs.toArray (xs.set k v).toArray e (0, 0) hR1

/-- 'copy(dst, src)' of the whole of both. -/
theorem L_copy (hgd : o.guard = none) (d s : Operand) (dT sT : TypeId) (ho : o.op = .call { callee := .builtin .copy, args := #[d, s], argTypes := #[dT, sT] }) (elem : TypeId) (hu : P.underlying dT = some (.slice elem)) (hsz : (P.info? elem).map (·.size) = some 1)
    (g n cap cap2 : Nat) (sp : Option Addr) (hd : a.eval d = .slice (some ⟨g, 0, none⟩) n cap) (hs : a.eval s = .slice sp n cap2) (cur cs : List Value) (e : TypeId) (hR : Row w g e cur) (hcur : cur.length = n) (hcs : cs.length = n)
    (hsrc : 0 < n → ∃ ad, sp = some ad ∧ ∀ j v, cs[j]? = some v → w.cell? (ad.add j) = some v) (h1 : ∀ v ∈ cs, v.oneCell' = true)
    (hK : ∀ w', Row w' g e cs → Spare (One g) w w' → wpList P ops Q rest (a.put o.dst (goInt n)) w') : wpList P ops Q (o :: rest) a w := by
  by_cases h0 : n = 0
  · subst h0
    obtain rfl : cs = [] := List.eq_nil_of_length_eq_zero hcs
    obtain rfl : cur = [] := List.eq_nil_of_length_eq_zero hcur
    exact wpList_copy_nothing hgd d s dT sT ho elem hu hsz _ sp 0 cap 0 cap2 hd hs rfl (hK w hR (Spare.refl _ w))
  · obtain ⟨ad, rfl, hcell⟩ := hsrc (by omega)
    refine wpList_copy_own hgd d s dT sT ho elem hu hsz g 0 n cap ad n cap2 hd hs cur.toArray e hR cs (by rw [hcs]; exact (Nat.min_self n).symm) hcell (by simp; omega) h1 ?_
    rw [show cur.toArray.toList.take 0 ++ (cs ++ cur.toArray.toList.drop (0 + cs.length)) = cs by
      rw [show cur.toArray.toList.drop (0 + cs.length) = [] from List.drop_eq_nil_of_le (by simp; omega)]; simp, hcs]
    exact hK _ (setRow_heap w g cur.toArray cs.toArray e (0, 0) hR) (Spare.setRow w g _)

/-- A new key into a map. -/
theorem L_update (hg : o.guard = none) (m x v : Operand) (t : TypeId) (hop : o.op = Op.mapUpdate t m x v) (kt et : TypeId) (ht : P.underlying t = some (.map kt et)) (b : Nat) (hm : a.eval m = .map (some b)) (es : List MapEntry) (clock : Nat) (hM : Mp w b es clock)
    (key val : Value) (hx : a.eval x = key) (hv : a.eval v = val) (hc : (Instr.checkKey false 10000 kt key).run P w = .ok () w) (hf : (Instr.findKey kt key es).run P w = .ok none w)
    (hK : ∀ w', Mp w' b (es ++ [{ key := key, val := val, born := clock }]) (clock + 1) → Spare (One b) w w' → wpList P ops Q rest (a.put o.dst undef) w') : wpList P ops Q (o :: rest) a w := by
  refine wpList_plain hg fun K hK' => ?_
  have hrun : (Instr.mapUpdate t (.map (some b)) key val).run P w = .ok () (setBlock w b (.map (es ++ [({ key := key, val := val, born := clock } : MapEntry)]).toArray (clock + 1))) := by
    simp [Instr.mapUpdate, run_underlying ht, MapKept.run_getObj_map hM, hc, hf, MapKept.run_setObj_map _ hM, Result.andThen, setBlock]
  unfold Oper.wp
  simp [execOp, hop, hm, hx, hv, hrun, Result.andThen]
  refine hK' _ _ (hK _ ?_ (Spare.setBlock w b _))
  simp [Mp, setBlock, hM.lt]

/-- A look-up. -/
theorem L_lookup (hg : o.guard = none) (m x : Operand) (t : TypeId) (ok : Bool) (hop : o.op = Op.lookup t m x ok) (kt et : TypeId) (ht : P.underlying t = some (.map kt et)) (z : Value) (hz : (zeroValue et).run P w = .ok z w) (b : Nat) (hm : a.eval m = .map (some b)) (es : List MapEntry) (clock : Nat) (hM : Mp w b es clock)
    (key : Value) (hx : a.eval x = key) (hc : ∀ f, (Instr.checkKey f 10000 kt key).run P w = .ok () w) (r : Option (Nat × Value)) (hf : (Instr.findKey kt key es).run P w = .ok r w)
    (hK : wpList P ops Q rest (a.put o.dst (if ok then .tuple #[(r.map (·.2)).getD z, .bool r.isSome] else (r.map (·.2)).getD z)) w) : wpList P ops Q (o :: rest) a w := by
  refine wpList_plain hg fun K hK' => ?_
  have hrun : (Instr.lookup t (.map (some b)) key ok).run P w = .ok (if ok then .tuple #[(r.map (·.2)).getD z, .bool r.isSome] else (r.map (·.2)).getD z) w := by
    cases r with
    | none => simp [Instr.lookup, run_underlying ht, MapKept.run_getObj_map hM, hc, hf, hz, Result.andThen]
    | some p => simp [Instr.lookup, run_underlying ht, MapKept.run_getObj_map hM, hc, hf, Result.andThen]
  unfold Oper.wp
  simp only [execOp, hop, hm, hx, hrun, Result.andThen, Sem.run_bind]
  exact hK' _ _ hK

theorem L_len_map (hg : o.guard = none) (m : Operand) (t : TypeId) (hop : o.op = Op.call { callee := Callee.builtin Builtin.len, args := #[m], argTypes := #[t] }) (kt et : TypeId) (ht : P.underlying t = some (.map kt et)) (b : Nat) (hm : a.eval m = .map (some b)) (es : List MapEntry) (clock : Nat) (hM : Mp w b es clock)
    (hK : wpList P ops Q rest (a.put o.dst (goInt es.length)) w) : wpList P ops Q (o :: rest) a w := by
  refine wpList_plain hg fun K hK' => ?_
  have hrun : (Builtin.len_ #[t] o.type #[.map (some b)]).run P w = .ok (goInt es.length) w := by
    simp [Builtin.len_, run_underlying ht, MapKept.run_getObj_map hM, Result.andThen]
  unfold Oper.wp
  simp [execOp, hop, resolve, invoke, builtin, hm, hrun, Result.andThen]
  exact hK' _ _ hK

/-- A pointer key among pointer keys. -/
theorem find_ptr {kt te : TypeId} {j : TypeInfo} (hp : P.underlying kt = some (.pointer te)) (hte : P.info? te = some j) (hsz : j.size ≠ 0) (b : Nat) {t : TypeId} {xs : List Value} (hb : Row w b t xs) (es : List MapEntry)
    (hes : ∀ e ∈ es, ∃ b', e.key = .pointer (some ⟨b', 0, none⟩) ∧ ∃ t xs, Row w b' t xs) :
    ((Instr.findKey kt (.pointer (some ⟨b, 0, none⟩)) es).run P w = .ok none w ∧ ∀ e ∈ es, e.key ≠ .pointer (some ⟨b, 0, none⟩)) ∨ ∃ j e, (Instr.findKey kt (.pointer (some ⟨b, 0, none⟩)) es).run P w = .ok (some (j, e.val)) w ∧ e ∈ es ∧ e.key = .pointer (some ⟨b, 0, none⟩) := by
  have eq1 : (Op.equal kt (.pointer (some ⟨b, 0, none⟩)) (.pointer (some ⟨b, 0, none⟩))).run P w = .ok true w := by
    have h : ∀ d : Nat, (Op.equalIn (d + 1) kt (.pointer (some ⟨b, 0, none⟩)) (.pointer (some ⟨b, 0, none⟩))).run P w = .ok true w := fun d => by
      simp [Op.equalIn, run_underlying hp, sizeOf, typeInfo, hte, run_sameAddr_same]
    simp [Op.equal, Op.maxDepth, h 9999]
  have eq2 : ∀ b' t' xs', b ≠ b' → Row w b' t' xs' → (Op.equal kt (.pointer (some ⟨b, 0, none⟩)) (.pointer (some ⟨b', 0, none⟩))).run P w = .ok false w := by
    intro b' t' xs' hne hr
    have hne' : (⟨b, 0, none⟩ : Addr) ≠ ⟨b', 0, none⟩ := fun x => hne (congrArg Addr.block x)
    have h : ∀ d : Nat, (Op.equalIn (d + 1) kt (.pointer (some ⟨b, 0, none⟩)) (.pointer (some ⟨b', 0, none⟩))).run P w = .ok false w := fun d => by
      simp [Op.equalIn, run_underlying hp, sizeOf, typeInfo, hte, hsz, run_sameAddr_other w hne' hb hr]
    simp [Op.equal, Op.maxDepth, h 9999]
  have ask : ∀ (es : List MapEntry) (i : Nat), (∀ e ∈ es, ∃ b', e.key = .pointer (some ⟨b', 0, none⟩) ∧ ∃ t xs, Row w b' t xs) →
      ((Instr.findAsking kt (.pointer (some ⟨b, 0, none⟩)) es i).run P w = .ok none w ∧ ∀ e ∈ es, e.key ≠ .pointer (some ⟨b, 0, none⟩)) ∨ ∃ j e, (Instr.findAsking kt (.pointer (some ⟨b, 0, none⟩)) es i).run P w = .ok (some (j, e.val)) w ∧ e ∈ es ∧ e.key = .pointer (some ⟨b, 0, none⟩) := by
    intro es
    induction es with
    | nil => intro i _; exact .inl ⟨by simp [Instr.findAsking], by simp⟩
    | cons e es ih =>
      intro i h
      obtain ⟨b', hk, t', xs', hr⟩ := h e (by simp)
      by_cases hbb : b = b'
      · subst hbb
        exact .inr ⟨i, e, by simp [Instr.findAsking, hk, eq1], by simp, hk⟩
      · rcases ih (i + 1) (fun e' he' => h e' (by simp [he'])) with ⟨h1, h2⟩ | ⟨j, e', h1, h2, h3⟩
        · refine .inl ⟨by simp [Instr.findAsking, hk, eq2 b' t' xs' hbb hr, h1], fun e' he' => ?_⟩
          rcases List.mem_cons.1 he' with rfl | he'
          · rw [hk]; intro x; exact hbb (by simpa using x.symm)
          · exact h2 e' he'
        · exact .inr ⟨j, e', by simp [Instr.findAsking, hk, eq2 b' t' xs' hbb hr, h1], by simp [h2], h3⟩
  cases es with
  | nil => exact .inl ⟨by simp [Instr.findKey, run_underlying hp, Instr.findNow], by simp⟩
  | cons e es =>
    have : Instr.findNow (.pointer te) (.pointer (some ⟨b, 0, none⟩)) (e :: es) 0 = none := by simp [Instr.findNow, Instr.sameNow]
    have hfk : (Instr.findKey kt (.pointer (some ⟨b, 0, none⟩)) (e :: es)).run P w = (Instr.findAsking kt (.pointer (some ⟨b, 0, none⟩)) (e :: es) 0).run P w := by
      simp [Instr.findKey, run_underlying hp, this]
    rw [hfk]
    exact ask (e :: es) 0 hes
theorem check_ptr {kt te : TypeId} (hp : P.underlying kt = some (.pointer te)) (v : Option Addr) (f : Bool) : (Instr.checkKey f 10000 kt (.pointer v)).run P w = .ok () w := by
  show (Instr.checkKey f (9999 + 1) kt (.pointer v)).run P w = .ok () w
  rw [Instr.checkKey]
  simp [run_underlying hp]

/-- A loop over a map of n entries, whose stamps are 0, 1, ..: 'next'. -/
def Iter (w : World) (r s n : Nat) (seen : List Nat) : Prop := w.heap[r]? = some (.mapIter (some s) n seen.toArray n)
def ents (kf vf : Nat → Value) (n : Nat) : List MapEntry := (List.range n).map fun i => { key := kf i, val := vf i, born := i }
theorem Iter.spare {S : Nat → Prop} {w w' : World} {r s n : Nat} {seen : List Nat} (h : Iter w r s n seen) (hs : Spare S w w') (hb : ¬ S r) : Iter w' r s n seen := (hs.block r (Array.getElem?_eq_some_iff.1 h).1 hb).trans h
theorem Iter.lt {w : World} {r s n : Nat} {seen : List Nat} (h : Iter w r s n seen) : r < w.heap.size := (Array.getElem?_eq_some_iff.1 h).1

theorem L_next (hg : o.guard = none) (it : Operand) (hop : o.op = Op.next it false) (r s n : Nat) (seen : List Nat) (kf vf : Nat → Value) (hit : a.eval it = .pointer (some ⟨r, 0, none⟩)) (hI : Iter w r s n seen) (hM : Mp w s (ents kf vf n) n)
    (hDone : (∀ i, i < n → i ∈ seen) → wpList P ops Q rest (a.put o.dst (.tuple #[.bool false])) w)
    (hMore : ∀ i w', i < n → i ∉ seen → Iter w' r s n (seen ++ [i]) → Spare (One r) w w' → w'.heap.size = w.heap.size → (Instr.entry (.pointer (some ⟨r, 0, none⟩))).run P w' = .ok (.tuple #[kf i, vf i]) w' →
      wpList P ops Q rest (a.put o.dst (.tuple #[.bool true, kf i, vf i])) w') : wpList P ops Q (o :: rest) a w := by
  refine wpList_plain hg fun K' hK' => ?_
  have hne : r ≠ s := fun e => by subst e; unfold Iter at hI; unfold Mp at hM; rw [hI] at hM; cases hM
  have hold : ∀ x ∈ (ents kf vf n).toArray.toList, x.born < n := by
    intro x hx
    simp [ents] at hx
    obtain ⟨i, hi, rfl⟩ := hx
    exact hi
  unfold Oper.wp
  rcases run_next_at (P := P) w o.type r s n n seen.toArray (ents kf vf n).toArray n hI hM hold (Nat.le_refl _) with ⟨h0, hrun⟩ | ⟨e, he, w1, hal, hrun⟩
  · simp [execOp, hop, hit, hrun, Result.andThen]
    refine hK' _ _ (hDone fun i hi => ?_)
    have := all_seen _ _ h0 { key := kf i, val := vf i, born := i } (by simp only [ents, List.mem_map, List.mem_range]; exact ⟨i, hi, rfl⟩)
    simpa using this
  · obtain ⟨hem, hes⟩ := mem_left he
    have hem' := hem
    simp [ents] at hem'
    obtain ⟨i, hi, rfl⟩ := hem'
    have hI1 : Iter w1 r s n seen := by rcases hal with rfl | rfl <;> exact hI
    have hM1 : Mp w1 s (ents kf vf n) n := by rcases hal with rfl | rfl <;> exact hM
    have hsp : Spare (One r) w (setBlock w1 r (.mapIter (some s) n (seen.toArray.push i) n)) := by
      rcases hal with rfl | rfl
      · exact Spare.setBlock _ _ _
      · exact (Spare.drew (One r) w).on (Spare.setBlock _ _ _) (fun _ => rfl)
    have hI2 : (setBlock w1 r (.mapIter (some s) n (seen.toArray.push i) n)).heap[r]? = some (.mapIter (some s) n (seen.toArray.push i) n) := by simp [setBlock, hI1.lt]
    have hM2 := hM.spare hsp (fun e => hne e.symm)
    have hen := run_entry_at (P := P) _ r s n seen.toArray (ents kf vf n).toArray n { key := kf i, val := vf i, born := i } hI2 hM2 hem (by simp [ents, Function.comp_def, List.nodup_range])
    simp only [execOp, hop, hit, hrun, Result.andThen, Sem.run_bind]
    refine hK' _ _ (hMore i _ hi (by simpa using hes) ?_ hsp (by rcases hal with rfl | rfl <;> simp [setBlock]) hen)
    unfold Iter
    rw [hI2]
    simp

theorem L_range (hg : o.guard = none) (m : Operand) (t : TypeId) (hop : o.op = Op.range t m) (kt et : TypeId) (ht : P.underlying t = some (.map kt et)) (s n : Nat) (es : List MapEntry) (hm : a.eval m = .map (some s)) (hM : Mp w s es n)
    (hK : ∀ w' r, Hid (r = w.heap.size) → Iter w' r s n [] → Spare Non w w' → wpList P ops Q rest (a.put o.dst (.pointer (some ⟨r, 0, none⟩))) w') : wpList P ops Q (o :: rest) a w := by
  refine wpList_plain hg fun K' hK' => ?_
  have hrun := run_range_map (P := P) w t kt et s es.toArray n ht hM
  unfold Oper.wp
  simp [execOp, hop, hm, hrun, Result.andThen]
  exact hK' _ _ (hK _ _ rfl (MapKept.heap_alloc w _).1 (Spare.alloc _ w _))
end
end Go.Proofs.Ybulkcwdy
