/-
  Seat b194158a: 'x := make([]T, len(y)); copy(x, y)', its two runs as equations over worlds that are letters; the built-ins behind names that the walk does not open.
-/
import Derived.Test.YbulkexpzqLess
namespace Go.Proofs.Ybulkexpzq
open Go.RowKit

def copyS (ts : Array TypeId) (ty : TypeId) (args : Array Value) : Sem Value := Builtin.copy_ ts ty args
theorem copyS_eq (ts : Array TypeId) (ty : TypeId) (args : Array Value) : Builtin.copy_ ts ty args = copyS ts ty args := rfl
def makeS (t : TypeId) (l c : Value) : Sem Value := Instr.makeSlice t l c
theorem makeS_eq (t : TypeId) (l c : Value) : Instr.makeSlice t l c = makeS t l c := rfl

/-- The numbers of a slice that is read: its first cells. -/
def RowAt (w : World) (k : IntKind) (ao : Option Addr) (xs : List Int) : Prop :=
  ∀ i, i < xs.length → ∃ b off, ao = some ⟨b, off, none⟩ ∧ w.cell? ⟨b, off + i, none⟩ = some (.int k (xs.getD i 0))

theorem RowAt.cells {w : World} {k : IntKind} {ao : Option Addr} {xs : List Int} (h : RowAt w k ao xs) (hp : 0 < xs.length) : ∃ ad, ao = some ad ∧ ∀ j v, (xs.map (Value.int k))[j]? = some v → w.cell? (ad.add j) = some v := by
  obtain ⟨b, off, ha, _⟩ := h 0 hp
  refine ⟨_, ha, fun j v hj => ?_⟩
  have hjl : j < xs.length := by have := (List.getElem?_eq_some_iff.1 hj).1; simpa using this
  obtain ⟨b', off', ha', hc⟩ := h j hjl
  rw [ha] at ha'
  cases ha'
  rw [Addr.add_lit, hc]
  simp [hjl] at hj
  simp [List.getD, hjl, hj]

theorem RowAt.below {w w' : World} {k : IntKind} {ao : Option Addr} {xs : List Int} (h : RowAt w k ao xs) {B : Nat} (hb : Below B w w') (hlt : ∀ a, ao = some a → a.block < B) : RowAt w' k ao xs := by
  intro i hi
  obtain ⟨b, off, ha, hc⟩ := h i hi
  exact ⟨b, off, ha, (hb.cell (p := ⟨b, off + i, none⟩) (show b < B from hlt _ ha)).trans hc⟩

theorem RowAt.lt {w : World} {k : IntKind} {ao : Option Addr} {xs : List Int} (h : RowAt w k ao xs) (hp : 0 < xs.length) : ∀ a, ao = some a → a.block < w.heap.size := by
  intro a ha
  obtain ⟨b, off, ha', hc⟩ := h 0 hp
  rw [ha] at ha'
  cases ha'
  exact World.block_lt_of_cell? w _ hc

/-- A block of numbers, read as a slice's row. -/
theorem rowAt_block {w : World} {k : IntKind} {g : Nat} {xs : List Int} {e : TypeId} (h : w.heap[g]? = some (.cells (xs.map (Value.int k)).toArray e (0, 0))) : RowAt w k (some ⟨g, 0, none⟩) xs := by
  intro i hi
  refine ⟨g, 0, rfl, ?_⟩
  simp [World.cell?, h, List.getD, hi]

theorem make_copy (w : World) (t e : TypeId) (k : IntKind) (bytes : Nat) (z : Int) (ht : Yba.prog.underlying t = some (.slice e)) (hinfo : (Yba.prog.info? e).map (fun i => (i.zero, i.size, i.bytes)) = some (some (.int k z), 1, bytes))
    (ao : Option Addr) (n c : Nat) (xs : List Int) (hn : xs.length = n) (hsm : bytes * n ≤ 281474976710656) (hsm2 : n ≤ 9223372036854775807) (hrow : RowAt w k ao xs) :
    ∃ w1 w2, (makeS t (.int .i64 n) (.int .i64 n)).run Yba.prog w = .ok (.slice (some ⟨w.heap.size, 0, none⟩) n n) w1 ∧
      (∀ ty, (copyS #[t, t] ty #[.slice (some ⟨w.heap.size, 0, none⟩) n n, .slice ao n c]).run Yba.prog w1 = .ok (.int .i64 n) w2) ∧
      w2.heap[w.heap.size]? = some (.cells (xs.map (Value.int k)).toArray e (0, 0)) ∧ w2.heap.size = w.heap.size + 1 ∧ Below w.heap.size w w2 := by
  obtain ⟨i, hi, hz0, hz1, hz2⟩ := info_parts hinfo
  have hmk := run_make (P := Yba.prog) w t e i (.int k z) ht hi hz0 .i64 .i64 (n : Int) (n : Int) (by omega) (Int.le_refl _) (by rw [hz2, ← Int.natCast_mul]; omega) (by omega)
  rw [Int.toNat_natCast, hz1, Nat.mul_one] at hmk
  have hsz : (madeCells (Value.int k z).cells n).size = n := size_madeCells _ _
  generalize madeCells (Value.int k z).cells n = cur at hmk hsz
  have hsz1 : (Yba.prog.info? e).map (·.size) = some 1 := by rw [hi]; simp [hz1]
  by_cases h0 : n = 0
  · subst h0
    have hx : xs = [] := List.eq_nil_of_length_eq_zero hn
    subst hx
    have hcur : cur = #[] := Array.eq_empty_of_size_eq_zero hsz
    subst hcur
    refine ⟨_, _, hmk, fun ty => ?_, heap_alloc_new w _, by simp, (Below.refl _ _).alloc (Nat.le_refl _) _⟩
    have := run_copy_none (P := Yba.prog) (w.alloc (.cells #[] e)) t t ty e (some ⟨w.heap.size, 0, none⟩) ao 0 0 0 c ht hsz1 (by simp)
    simpa [copyS, goInt] using this
  · obtain ⟨ad, rfl, hc⟩ := hrow.cells (by omega)
    have hb : Below w.heap.size w (w.alloc (.cells cur e)) := (Below.refl _ _).alloc (Nat.le_refl _) _
    have hg : (w.alloc (.cells cur e)).heap[w.heap.size]? = some (.cells cur e (0, 0)) := heap_alloc_new w _
    have hlt := hrow.lt (by omega) ad rfl
    refine ⟨_, (w.alloc (.cells cur e)).setRow w.heap.size (cur.toList.take 0 ++ xs.map (Value.int k) ++ cur.toList.drop (0 + (xs.map (Value.int k)).length)).toArray, hmk, fun ty => ?_, ?_, ?_, ?_⟩
    · have := run_copy_row (P := Yba.prog) (w.alloc (.cells cur e)) t t ty e w.heap.size 0 n n ad n c cur e (xs.map (Value.int k)) ht hsz1 hg (by simp [hn]) (fun j v hj => by
        rw [hb.cell (p := ad.add j) (by rw [show (ad.add j).block = ad.block by unfold Addr.add; split <;> rfl]; exact hlt)]; exact hc j v hj) (by simp [hn, hsz]) (ints_oneCell k xs)
      rw [show (goInt (xs.map (Value.int k)).length) = .int .i64 (n : Int) by simp [goInt, hn]] at this
      exact this
    · rw [setRow_heap _ _ _ _ _ _ hg]
      simp
      omega
    · simp [World.setRow]
    · exact hb.trans ⟨rfl, rfl, rfl, by simp [World.setRow], fun j hj => setRow_other _ _ j _ (by omega)⟩
end Go.Proofs.Ybulkexpzq
