/-
  Seat b194158a: tokens stored into and loaded out of the queue's block; the queue as it is made.
-/
import Derived.Test.YbulkexpzqMake
import Derived.Deep.MidRow
namespace Go.Proofs.Ybulkexpzq
open Go.RowKit
theorem setCells_os (g : Nat) : ∀ (vs : List Value) (o : Nat) (w : World), (w.setCells g o vs).os = w.os
  | [], _, _ => rfl
  | v :: vs, o, w => by rw [World.setCells, setCells_os g vs (o + 1)]; rfl
theorem setCells_tape (g : Nat) : ∀ (vs : List Value) (o : Nat) (w : World), (w.setCells g o vs).tape = w.tape
  | [], _, _ => rfl
  | v :: vs, o, w => by rw [World.setCells, setCells_tape g vs (o + 1)]; rfl
theorem setCells_output (g : Nat) : ∀ (vs : List Value) (o : Nat) (w : World), (w.setCells g o vs).output = w.output
  | [], _, _ => rfl
  | v :: vs, o, w => by rw [World.setCells, setCells_output g vs (o + 1)]; rfl
theorem setCells_size (g : Nat) : ∀ (vs : List Value) (o : Nat) (w : World), (w.setCells g o vs).heap.size = w.heap.size
  | [], _, _ => rfl
  | v :: vs, o, w => by rw [World.setCells, setCells_size g vs (o + 1), World.size_setCell]
theorem setCells_other (g k : Nat) (hk : k ≠ g) : ∀ (vs : List Value) (o : Nat) (w : World), (w.setCells g o vs).heap[k]? = w.heap[k]?
  | [], _, _ => rfl
  | v :: vs, o, w => by rw [World.setCells, setCells_other g k hk vs (o + 1), Below.heap_setCell _ _ _ _ (by exact hk)]
theorem setCells_heap (g : Nat) (t : TypeId) : ∀ (vs L : List Value) (o : Nat) (w : World), w.heap[g]? = some (.cells L.toArray t (0, 0)) → o + vs.length ≤ L.length →
    (w.setCells g o vs).heap[g]? = some (.cells (L.take o ++ vs ++ L.drop (o + vs.length)).toArray t (0, 0))
  | [], L, o, w, h, _ => by simpa [World.setCells] using h
  | v :: vs, L, o, w, h, hl => by
    have h1 : (w.setCell ⟨g, o, none⟩ v).heap[g]? = some (.cells (L.set o v).toArray t (0, 0)) := by
      simp [World.setCell, Array.getElem?_modify, h]
    rw [World.setCells, setCells_heap g t vs (L.set o v) (o + 1) _ h1 (by simp at hl ⊢; omega)]
    have hlt : o < L.length := by simp at hl; omega
    congr 3
    rw [List.set_eq_take_append_cons_drop, if_pos hlt]
    have e1 : (L.take o ++ v :: L.drop (o + 1)).take (o + 1) = L.take o ++ [v] := by
      rw [List.take_append, List.length_take, Nat.min_eq_left (by omega), show o + 1 - o = 1 by omega, List.take_take, Nat.min_eq_right (by omega)]; simp
    have e2 : (L.take o ++ v :: L.drop (o + 1)).drop (o + 1 + vs.length) = L.drop (o + (v :: vs).length) := by
      rw [List.drop_append, List.length_take, Nat.min_eq_left (by omega)]
      simp only [List.length_cons]
      rw [List.drop_eq_nil_of_le (by simp; omega), show o + 1 + vs.length - o = vs.length + 1 by omega]
      simp [List.drop_drop]
      congr 1; omega
    rw [e1, e2]; simp
def ldTok (p : Value) : Sem Value := Instr.loadAt 31 p
theorem ldTok_eq (p : Value) : Instr.loadAt 31 p = ldTok p := rfl
def stTok (p v : Value) : Sem Unit := Instr.storeAt 31 p v
theorem stTok_eq (p v : Value) : Instr.storeAt 31 p v = stTok p v := rfl
attribute [local go_sem ↓] copyS_eq makeS_eq ldTok_eq stTok_eq

/-- The strings of a slice that is read. -/
def StrsAt (w : World) (ao : Option Addr) (ss : List ByteArray) : Prop :=
  ∀ i, i < ss.length → ∃ b off, ao = some ⟨b, off, none⟩ ∧ w.cell? ⟨b, off + i, none⟩ = some (.string (ss.getD i ByteArray.empty))
theorem StrsAt.below {w w' : World} {ao : Option Addr} {ss : List ByteArray} (h : StrsAt w ao ss) (hb : Below w.heap.size w w') : StrsAt w' ao ss := by
  intro i hi
  obtain ⟨b, off, ha, hc⟩ := h i hi
  exact ⟨b, off, ha, (hb.cell (p := ⟨b, off + i, none⟩) (World.block_lt_of_cell? w _ hc)).trans hc⟩
theorem RowAt.under {w w' : World} {k : IntKind} {ao : Option Addr} {xs : List Int} (h : RowAt w k ao xs) (hb : Below w.heap.size w w') : RowAt w' k ao xs := by
  intro i hi
  obtain ⟨b, off, ha, hc⟩ := h i hi
  exact ⟨b, off, ha, (hb.cell (p := ⟨b, off + i, none⟩) (World.block_lt_of_cell? w _ hc)).trans hc⟩

/-- The cells of the first k tokens of the queue. -/
def tokQ (ss : List ByteArray) : Nat → List Value
  | 0 => []
  | k + 1 => tokQ ss k ++ tokenC (ss.getD k ByteArray.empty) (k : Int) ((k : Int) + 1)
theorem tokQ_len (ss : List ByteArray) (k : Nat) : (tokQ ss k).length = k * 9 := by
  induction k with
  | zero => rfl
  | succ k ih => simp only [tokQ, List.length_append, ih, tokenC, List.length_cons, List.length_nil]; omega

/-- The run of a store of a token. -/
theorem store_tok (w : World) (g k n : Nat) (L : List Value) (hL : w.heap[g]? = some (.cells L.toArray 31 (0, 0))) (hn : L.length = n * 9) (hk : k < n) (d : ByteArray) (s e : Int) :
    ∃ w', (stTok (.pointer (some ⟨g, k * 9, none⟩)) (.agg #[.int .u8 1, .string d, .slice none 0 0, .bool false, .pointer none, .pointer none, .bool false, .int .i64 s, .int .i64 e])).run Yba.prog w = .ok () w' ∧
      w'.heap[g]? = some (.cells (L.take (k * 9) ++ tokenC d s e ++ L.drop (k * 9 + 9)).toArray 31 (0, 0)) ∧ Kept (fun j => j = g) w w' := by
  have hth : w.there g (k * 9) 9 := by
    intro j hj
    have hlt : k * 9 + j < L.length := by omega
    constructor
    · simp [World.cell?, hL, hlt]
    · simp [World.frozen?, hL]
  have hinf : (Yba.prog.info? 31).map (·.size) = some 9 := by kernel_rfl
  have := run_storeAt_mid (P := Yba.prog) w g (k * 9) 31 (tokenC d s e).toArray hth hinf (all_oneCell_toArray (tokenC_one d s e))
  refine ⟨_, this, ?_, ?_⟩
  · rw [setCells_heap g 31 _ L _ w hL (by simp [tokenC]; omega)]
    simp [tokenC]
  · exact ⟨setCells_os _ _ _ _, setCells_tape _ _ _ _, setCells_output _ _ _ _, by rw [setCells_size]; exact Nat.le_refl _, fun j _ hj => setCells_other g j hj _ _ _⟩
theorem make_tok (w : World) (n : Nat) (hn : n ≤ 1048576) : ∃ w1 L, (makeS 26 (.int .i64 n) (.int .i64 n)).run Yba.prog w = .ok (.slice (some ⟨w.heap.size, 0, none⟩) n n) w1 ∧
    w1.heap[w.heap.size]? = some (.cells (List.toArray L) 31 (0, 0)) ∧ L.length = n * 9 ∧ w1.heap.size = w.heap.size + 1 ∧ Below w.heap.size w w1 := by
  obtain ⟨i, hi, hz0, hz1, hz2⟩ := info_parts Yba.info31
  have hmk := run_make (P := Yba.prog) w 26 31 i _ Yba.underlying26 hi hz0 .i64 .i64 (n : Int) (n : Int) (by omega) (Int.le_refl _) (by rw [hz2]; omega) (by omega)
  rw [Int.toNat_natCast, hz1] at hmk
  have hsz := size_madeCells (Value.agg #[.int .u8 0, .string ByteArray.empty, .slice none 0 0, .bool false, .pointer none, .pointer none, .bool false, .int .i64 0, .int .i64 0]).cells (n * 9)
  generalize madeCells (Value.agg #[.int .u8 0, .string ByteArray.empty, .slice none 0 0, .bool false, .pointer none, .pointer none, .bool false, .int .i64 0, .int .i64 0]).cells (n * 9) = cur at hmk hsz
  exact ⟨_, cur.toList, hmk, by simpa using heap_alloc_new w _, by simpa using hsz, by simp, (Below.refl _ _).alloc (Nat.le_refl _) _⟩

theorem Yba.info21 : (Yba.prog.info? 21).map (fun i => (i.zero, i.size, i.bytes)) = some (some (.int .i32 0), 1, 4) := by kernel_rfl

end Go.Proofs.Ybulkexpzq
