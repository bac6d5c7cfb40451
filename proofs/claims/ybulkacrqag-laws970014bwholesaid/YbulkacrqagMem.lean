/-
  Seat b970014a: memory: what a call may turn; rows of several cells; stores and loads of structs in the midst of a block.
-/
import Derived.Test.YbulkacrqagOnward
import Derived.Deep.MidRow
namespace Go.Proofs.Ybulkacrqag
open Go.RowKit

/-- What a call may turn: the blocks of S, and new ones; nothing else. -/
structure Kept (S : Nat → Prop) (w w' : World) : Prop where
  os : w'.os = w.os
  tape : w'.tape = w.tape
  output : w'.output = w.output
  size : w.heap.size ≤ w'.heap.size
  block : ∀ k, k < w.heap.size → ¬ S k → w'.heap[k]? = w.heap[k]?

theorem Kept.refl (S : Nat → Prop) (w : World) : Kept S w w := ⟨rfl, rfl, rfl, Nat.le_refl _, fun _ _ _ => rfl⟩
theorem Kept.trans {S : Nat → Prop} {a b c : World} (h : Kept S a b) (k : Kept S b c) : Kept S a c :=
  ⟨k.os.trans h.os, k.tape.trans h.tape, k.output.trans h.output, Nat.le_trans h.size k.size, fun i hi hn => (k.block i (Nat.lt_of_lt_of_le hi h.size) hn).trans (h.block i hi hn)⟩
theorem Kept.drew {S : Nat → Prop} {a w : World} (h : Kept S a w) : Kept S a w.drew := ⟨h.os, h.tape, h.output, h.size, h.block⟩
theorem Kept.alloc {S : Nat → Prop} {a w : World} (h : Kept S a w) (o : Obj) : Kept S a (w.alloc o) :=
  h.trans ⟨rfl, rfl, rfl, by simp, fun k hk _ => Below.heap_alloc _ _ _ hk⟩
theorem Kept.setCell {S : Nat → Prop} {a w : World} (h : Kept S a w) {p : Addr} (hp : S p.block) (u : Value) : Kept S a (w.setCell p u) :=
  h.trans ⟨rfl, rfl, rfl, by simp, fun k _ hn => Below.heap_setCell _ _ _ _ (fun e => hn (e ▸ hp))⟩
theorem Kept.widen {S T : Nat → Prop} {a w : World} (h : Kept S a w) (hs : ∀ k, S k → T k) : Kept T a w := ⟨h.os, h.tape, h.output, h.size, fun k hk hn => h.block k hk (fun e => hn (hs k e))⟩
theorem Kept.below {S : Nat → Prop} {a w : World} (h : Kept S a w) {B : Nat} (hB : B ≤ a.heap.size) (hs : ∀ k, S k → B ≤ k) : Below B a w :=
  ⟨h.os, h.tape, h.output, h.size, fun k hk => h.block k (by omega) (fun e => by have := hs k e; omega)⟩
theorem kept_of_below {S : Nat → Prop} {w w' : World} (h : Below w.heap.size w w') : Kept S w w' := ⟨h.os, h.tape, h.output, h.size, fun k hk _ => h.block k hk⟩

theorem setCells_os (g : Nat) : ∀ (vs : List Value) (o : Nat) (w : World), (w.setCells g o vs).os = w.os
  | [], _, _ => rfl
  | v :: vs, o, w => by rw [World.setCells, setCells_os g vs (o + 1)]; rfl
theorem setCells_tape (g : Nat) : ∀ (vs : List Value) (o : Nat) (w : World), (w.setCells g o vs).tape = w.tape
  | [], _, _ => rfl
  | v :: vs, o, w => by rw [World.setCells, setCells_tape g vs (o + 1)]; rfl
theorem setCells_output (g : Nat) : ∀ (vs : List Value) (o : Nat) (w : World), (w.setCells g o vs).output = w.output
  | [], _, _ => rfl
  | v :: vs, o, w => by rw [World.setCells, setCells_output g vs (o + 1)]; rfl
theorem setCells_size (g : Nat) : ∀ (vs : List Value) (o : Nat) (w : World), (w.setCells g o vs).heap.size = w.heap.size
  | [], _, _ => rfl
  | v :: vs, o, w => by rw [World.setCells, setCells_size g vs (o + 1), World.size_setCell]
theorem setCells_other (g k : Nat) (hk : k ≠ g) : ∀ (vs : List Value) (o : Nat) (w : World), (w.setCells g o vs).heap[k]? = w.heap[k]?
  | [], _, _ => rfl
  | v :: vs, o, w => by rw [World.setCells, setCells_other g k hk vs (o + 1), Below.heap_setCell _ _ _ _ (by exact hk)]
theorem setCells_heap (g : Nat) (t : TypeId) : ∀ (vs L : List Value) (o : Nat) (w : World), w.heap[g]? = some (.cells L.toArray t (0, 0)) → o + vs.length ≤ L.length →
    (w.setCells g o vs).heap[g]? = some (.cells (L.take o ++ vs ++ L.drop (o + vs.length)).toArray t (0, 0))
  | [], L, o, w, h, _ => by simpa [World.setCells] using h
  | v :: vs, L, o, w, h, hl => by
    have h1 : (w.setCell ⟨g, o, none⟩ v).heap[g]? = some (.cells (L.set o v).toArray t (0, 0)) := by
      simp [World.setCell, Array.getElem?_modify, h]
    rw [World.setCells, setCells_heap g t vs (L.set o v) (o + 1) _ h1 (by simp at hl ⊢; omega)]
    have hlt : o < L.length := by simp at hl; omega
    congr 3
    rw [List.set_eq_take_append_cons_drop, if_pos hlt]
    have e1 : (L.take o ++ v :: L.drop (o + 1)).take (o + 1) = L.take o ++ [v] := by
      rw [List.take_append, List.length_take, Nat.min_eq_left (by omega), show o + 1 - o = 1 by omega, List.take_take, Nat.min_eq_right (by omega)]; simp
    have e2 : (L.take o ++ v :: L.drop (o + 1)).drop (o + 1 + vs.length) = L.drop (o + (v :: vs).length) := by
      rw [List.drop_append, List.length_take, Nat.min_eq_left (by omega)]
      simp only [List.length_cons]
      rw [List.drop_eq_nil_of_le (by simp; omega), show o + 1 + vs.length - o = vs.length + 1 by omega]
      simp [List.drop_drop]
      congr 1; omega
    rw [e1, e2]; simp

theorem setCell_heap (g : Nat) (t : TypeId) (L : List Value) (o : Nat) (w : World) (v : Value) (h : w.heap[g]? = some (.cells L.toArray t (0, 0))) : (w.setCell ⟨g, o, none⟩ v).heap[g]? = some (.cells (L.set o v).toArray t (0, 0)) := by
  simp [World.setCell, Array.getElem?_modify, h]
theorem block_cell {w : World} {g : Nat} {L : List Value} {t : TypeId} (h : w.heap[g]? = some (.cells L.toArray t (0, 0))) (o : Nat) : w.cell? ⟨g, o, none⟩ = L[o]? := by simp [World.cell?, h]
theorem block_frozen {w : World} {g : Nat} {L : List Value} {t : TypeId} (h : w.heap[g]? = some (.cells L.toArray t (0, 0))) (o : Nat) : w.frozen? ⟨g, o, none⟩ = false := by simp [World.frozen?, h]
theorem block_lt {w : World} {g : Nat} {o : Obj} (h : w.heap[g]? = some o) : g < w.heap.size := (Array.getElem?_eq_some_iff.1 h).1

/-- k rows, one behind the other. -/
def rows (g : Nat → List Value) : Nat → List Value
  | 0 => []
  | k + 1 => rows g k ++ g k
theorem rows_len {g : Nat → List Value} {s : Nat} (hs : ∀ i, (g i).length = s) : ∀ k, (rows g k).length = k * s
  | 0 => by simp [rows]
  | k + 1 => by rw [rows, List.length_append, rows_len hs k, hs, Nat.succ_mul]
theorem rows_at {g : Nat → List Value} {s : Nat} (hs : ∀ i, (g i).length = s) : ∀ (k j t : Nat), j < k → t < s → (rows g k)[j * s + t]? = (g j)[t]?
  | 0, _, _, h, _ => absurd h (by omega)
  | k + 1, j, t, h, ht => by
    have hl := rows_len hs k
    rw [rows]
    by_cases e : j = k
    · subst e
      rw [List.getElem?_append_right (by omega), hl, show j * s + t - j * s = t by omega]
    · have hjk : j < k := by omega
      have : j * s + t < k * s := by
        have h1 : (j + 1) * s ≤ k * s := Nat.mul_le_mul_right _ (by omega)
        rw [Nat.succ_mul] at h1; omega
      rw [List.getElem?_append_left (by omega)]
      exact rows_at hs k j t hjk ht
theorem rows_set {g h : Nat → List Value} {s : Nat} (hs : ∀ i, (g i).length = s) {j t : Nat} {v : Value} (hj : h j = (g j).set t v) (ho : ∀ i, i ≠ j → h i = g i) (ht : t < s) : ∀ k, j < k → (rows g k).set (j * s + t) v = rows h k
  | 0, hk => absurd hk (by omega)
  | k + 1, hk => by
    have hl := rows_len hs k
    rw [rows, rows]
    by_cases e : j = k
    · subst e
      rw [List.set_append_right _ _ (by omega), hl, show j * s + t - j * s = t by omega, hj, rows_same j (fun i hi => ho i (by omega))]
    · have hjk : j < k := by omega
      have : j * s + t < k * s := by
        have h1 : (j + 1) * s ≤ k * s := Nat.mul_le_mul_right _ (by omega)
        rw [Nat.succ_mul] at h1; omega
      rw [List.set_append_left _ _ (by omega), rows_set hs hj ho ht k hjk, ho k (by omega)]
where
  rows_same {g h : Nat → List Value} : ∀ k, (∀ i, i < k → h i = g i) → rows g k = rows h k
    | 0, _ => rfl
    | k + 1, e => by rw [rows, rows, rows_same k (fun i hi => e i (by omega)), e k (by omega)]

/-- Loads and stores of a whole struct, and the making of a slice, behind names that the walk does not open. -/
def ldS (p : Value) (t : TypeId) : Sem Value := Instr.loadAt t p
theorem ldS24_eq (p : Value) : Instr.loadAt 24 p = ldS p 24 := rfl
theorem ldS34_eq (p : Value) : Instr.loadAt 34 p = ldS p 34 := rfl
theorem ldS36_eq (p : Value) : Instr.loadAt 36 p = ldS p 36 := rfl
def stS (p v : Value) (t : TypeId) : Sem Unit := Instr.storeAt t p v
theorem stS24_eq (p v : Value) : Instr.storeAt 24 p v = stS p v 24 := rfl
theorem stS34_eq (p v : Value) : Instr.storeAt 34 p v = stS p v 34 := rfl
theorem stS36_eq (p v : Value) : Instr.storeAt 36 p v = stS p v 36 := rfl
def makeS (t : TypeId) (l c : Value) : Sem Value := Instr.makeSlice t l c
theorem makeS_eq (t : TypeId) (l c : Value) : Instr.makeSlice t l c = makeS t l c := rfl

theorem ld_run {w : World} {g o : Nat} {t : TypeId} {cs : List Value} {d : TypeDesc} (hu : Yba.prog.underlying t = some d) (hd : d.isRow = true) (hi : (Yba.prog.info? t).map (·.size) = some cs.length) (h : w.rangeAt g o cs) :
    (ldS (.pointer (some ⟨g, o, none⟩)) t).run Yba.prog w = .ok (.agg cs.toArray) w :=
  run_loadAt_mid (P := Yba.prog) w g o t cs d h hu hd hi

/-- The run of a store of a whole struct into the midst of a block. -/
theorem st_run (w : World) (g o : Nat) (t : TypeId) (L cs : List Value) (hL : w.heap[g]? = some (.cells L.toArray t (0, 0))) (ho : o + cs.length ≤ L.length) (hi : (Yba.prog.info? t).map (·.size) = some cs.length) (h1 : ∀ v ∈ cs, v.oneCell' = true) :
    ∃ w', (stS (.pointer (some ⟨g, o, none⟩)) (.agg cs.toArray) t).run Yba.prog w = .ok () w' ∧ w'.heap[g]? = some (.cells (L.take o ++ cs ++ L.drop (o + cs.length)).toArray t (0, 0)) ∧ Kept (fun j => j = g) w w' := by
  have hth : w.there g o cs.length := by
    intro j hj
    have hlt : o + j < L.length := by omega
    constructor
    · simp [World.cell?, hL, hlt]
    · simp [World.frozen?, hL]
  have hi' : (Yba.prog.info? t).map (·.size) = some cs.toArray.size := by simpa using hi
  have := run_storeAt_mid (P := Yba.prog) w g o t cs.toArray (by simpa using hth) hi' (all_oneCell_toArray h1)
  refine ⟨_, this, ?_, ?_⟩
  · exact setCells_heap g t cs L o w hL ho
  · exact ⟨setCells_os _ _ _ _, setCells_tape _ _ _ _, setCells_output _ _ _ _, by rw [setCells_size]; exact Nat.le_refl _, fun j _ hj => setCells_other g j hj _ _ _⟩

/-- Into a block that was just laid. -/
theorem st_new (w : World) (t : TypeId) (zs cs : List Value) (hz : zs.length = cs.length) (hi : (Yba.prog.info? t).map (·.size) = some cs.length) (h1 : ∀ v ∈ cs, v.oneCell' = true) :
    (stS (.pointer (some ⟨w.heap.size, 0, none⟩)) (.agg cs.toArray) t).run Yba.prog (w.alloc (.cells zs.toArray t)) = .ok () (w.alloc (.cells cs.toArray t)) := by
  have hth : (w.alloc (.cells zs.toArray t)).there w.heap.size 0 cs.length := by
    intro j hj
    have hlt : j < zs.length := by omega
    rw [Nat.zero_add]
    constructor
    · rw [World.cell?_alloc_at _ _ _ _ rfl]; simp [hlt]
    · rw [World.frozen?_alloc_at _ _ _ _ rfl]
  have hi' : (Yba.prog.info? t).map (·.size) = some cs.toArray.size := by simpa using hi
  have := run_storeAt_mid (P := Yba.prog) (w.alloc (.cells zs.toArray t)) w.heap.size 0 t cs.toArray (by simpa using hth) hi' (all_oneCell_toArray h1)
  have e : (w.alloc (.cells zs.toArray t)).setCells w.heap.size 0 cs = w.alloc (.cells cs.toArray t) := by
    have key : ∀ (vs zs : List Value) (o : Nat), o + vs.length = zs.length → (w.alloc (.cells zs.toArray t)).setCells w.heap.size o vs = w.alloc (.cells (zs.take o ++ vs).toArray t) := by
      intro vs
      induction vs with
      | nil => intro zs o h; simp only [List.length_nil, Nat.add_zero] at h; rw [World.setCells, h]; simp
      | cons v vs ih =>
        intro zs o h
        simp only [List.length_cons] at h
        rw [World.setCells, World.setCell_alloc_at _ _ _ _ _ rfl]
        rw [show (zs.toArray.setIfInBounds o v) = (zs.set o v).toArray by simp, ih (zs.set o v) (o + 1) (by simp; omega)]
        congr 3
        have hlt : o < zs.length := by omega
        have e1 : (zs.take o ++ v :: zs.drop (o + 1)).take (o + 1) = zs.take o ++ [v] := by
          rw [List.take_append, List.length_take, Nat.min_eq_left (by omega), show o + 1 - o = 1 by omega, List.take_take, Nat.min_eq_right (by omega)]; simp
        rw [List.set_eq_take_append_cons_drop, if_pos hlt, e1]
        simp
    have := key cs zs 0 (by omega)
    simpa using this
  rw [show cs.toArray.toList = cs by simp, e] at this
  exact this

/-- 'make([]T, n)', T of 'size' cells: a new block of that many. -/
theorem make_run (w : World) (t e : TypeId) (z : Value) (size bytes n : Nat) (ht : Yba.prog.underlying t = some (.slice e)) (hinfo : (Yba.prog.info? e).map (fun i => (i.zero, i.size, i.bytes)) = some (some z, size, bytes)) (hb : bytes * n ≤ 281474976710656) (hn : n ≤ 1048576) :
    ∃ w1 L, (makeS t (.int .i64 n) (.int .i64 n)).run Yba.prog w = .ok (.slice (some ⟨w.heap.size, 0, none⟩) n n) w1 ∧
      w1.heap[w.heap.size]? = some (.cells (List.toArray L) e (0, 0)) ∧ L.length = n * size ∧ w1.heap.size = w.heap.size + 1 ∧ Below w.heap.size w w1 := by
  obtain ⟨i, hi, hz0, hz1, hz2⟩ := info_parts hinfo
  have hmk := run_make (P := Yba.prog) w t e i z ht hi hz0 .i64 .i64 (n : Int) (n : Int) (by omega) (Int.le_refl _) (by rw [hz2, ← Int.natCast_mul]; omega) (by omega)
  rw [Int.toNat_natCast, hz1] at hmk
  have hsz := size_madeCells z.cells (n * size)
  generalize madeCells z.cells (n * size) = cur at hmk hsz
  exact ⟨_, cur.toList, hmk, by simpa using heap_alloc_new w _, by simpa using hsz, by simp, (Below.refl _ _).alloc (Nat.le_refl _) _⟩

theorem take_mid (L cs : List Value) (o m : Nat) (ho : o ≤ L.length) (hm : m = o + cs.length) : (L.take o ++ cs ++ L.drop m).take m = L.take o ++ cs := by
  subst hm
  rw [List.take_append_of_le_length (by simp; omega)]
  exact List.take_of_length_le (by simp; omega)
end Go.Proofs.Ybulkacrqag
