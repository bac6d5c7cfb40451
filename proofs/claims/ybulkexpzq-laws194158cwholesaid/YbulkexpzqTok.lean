/-
  Seat b194158a: the tokenizer's block: its 41 cells, read and written by field.
-/
import Derived.Test.YbulkexpzqLeaf
namespace Go.Proofs.Ybulkexpzq
open Go.RowKit

/-- The cells of the Tokenizer that the law lays, by the fields that may differ. -/
def tokC (tx ln : Value) (pos st : Int) (q tb : Value) (ts te s : Int) : List Value :=
  [tx, ln, .int .i64 pos, .int .i64 7, .int .u8 st, .int .u8 44, .string ByteArray.empty, .bool false, .slice none 0 0, .int .i64 0, q, .int .i64 0, tb, .int .i64 ts, .int .i64 te, .int .i64 s,
   .int .u8 0, .string ByteArray.empty, .slice none 0 0, .bool false, .pointer none, .pointer none, .bool false, .int .i64 0, .int .i64 0, .slice none 0 0, .bool false, .bool false, .string ByteArray.empty, .slice none 0 0, .map none,
   .slice none 0 0, .slice none 0 0, .slice none 0 0, .slice none 0 0, .slice none 0 0, .bool false, .bool false, .bool false, .int .i64 0, .int .i64 0]

/-- In block bt lies such a tokenizer. -/
def TokAt (w : World) (bt : Nat) (tx ln : Value) (pos st : Int) (q tb : Value) (ts te s : Int) : Prop :=
  w.heap[bt]? = some (.cells (tokC tx ln pos st q tb ts te s).toArray 38 (0, 0))

theorem TokAt.lt {w : World} {bt : Nat} {tx ln : Value} {pos st : Int} {q tb : Value} {ts te s : Int} (h : TokAt w bt tx ln pos st q tb ts te s) : bt < w.heap.size := (Array.getElem?_eq_some_iff.1 h).1

theorem TokAt.frozen {w : World} {bt : Nat} {tx ln : Value} {pos st : Int} {q tb : Value} {ts te s : Int} (h : TokAt w bt tx ln pos st q tb ts te s) (o : Nat) : w.frozen? ⟨bt, o, none⟩ = false := by
  unfold TokAt at h; simp [World.frozen?, h]

theorem TokAt.cell {w : World} {bt : Nat} {tx ln : Value} {pos st : Int} {q tb : Value} {ts te s : Int} (h : TokAt w bt tx ln pos st q tb ts te s) (o : Nat) : w.cell? ⟨bt, o, none⟩ = (tokC tx ln pos st q tb ts te s)[o]? := by
  unfold TokAt at h; simp [World.cell?, h]

theorem TokAt.set {w : World} {bt : Nat} {tx ln : Value} {pos st : Int} {q tb : Value} {ts te s : Int} (h : TokAt w bt tx ln pos st q tb ts te s) (o : Nat) (v : Value) :
    (w.setCell ⟨bt, o, none⟩ v).heap[bt]? = some (.cells ((tokC tx ln pos st q tb ts te s).set o v).toArray 38 (0, 0)) := by
  unfold TokAt at h
  simp [World.setCell, Array.getElem?_modify, h]

theorem TokAt.setPos {w : World} {bt : Nat} {tx ln : Value} {pos st : Int} {q tb : Value} {ts te s : Int} (h : TokAt w bt tx ln pos st q tb ts te s) (p : Int) : TokAt (w.setCell ⟨bt, 2, none⟩ (.int .i64 p)) bt tx ln p st q tb ts te s := h.set 2 _
theorem TokAt.setSt {w : World} {bt : Nat} {tx ln : Value} {pos st : Int} {q tb : Value} {ts te s : Int} (h : TokAt w bt tx ln pos st q tb ts te s) (p : Int) : TokAt (w.setCell ⟨bt, 4, none⟩ (.int .u8 p)) bt tx ln pos p q tb ts te s := h.set 4 _
theorem TokAt.setQ {w : World} {bt : Nat} {tx ln : Value} {pos st : Int} {q tb : Value} {ts te s : Int} (h : TokAt w bt tx ln pos st q tb ts te s) (p : Value) : TokAt (w.setCell ⟨bt, 10, none⟩ p) bt tx ln pos st p tb ts te s := h.set 10 _
theorem TokAt.setTb {w : World} {bt : Nat} {tx ln : Value} {pos st : Int} {q tb : Value} {ts te s : Int} (h : TokAt w bt tx ln pos st q tb ts te s) (p : Value) : TokAt (w.setCell ⟨bt, 12, none⟩ p) bt tx ln pos st q p ts te s := h.set 12 _
theorem TokAt.setTs {w : World} {bt : Nat} {tx ln : Value} {pos st : Int} {q tb : Value} {ts te s : Int} (h : TokAt w bt tx ln pos st q tb ts te s) (p : Int) : TokAt (w.setCell ⟨bt, 13, none⟩ (.int .i64 p)) bt tx ln pos st q tb p te s := h.set 13 _
theorem TokAt.setTe {w : World} {bt : Nat} {tx ln : Value} {pos st : Int} {q tb : Value} {ts te s : Int} (h : TokAt w bt tx ln pos st q tb ts te s) (p : Int) : TokAt (w.setCell ⟨bt, 14, none⟩ (.int .i64 p)) bt tx ln pos st q tb ts p s := h.set 14 _

/-- What a call may turn: the blocks of S, and new ones; nothing else. -/
structure Kept (S : Nat → Prop) (w w' : World) : Prop where
  os : w'.os = w.os
  tape : w'.tape = w.tape
  output : w'.output = w.output
  size : w.heap.size ≤ w'.heap.size
  block : ∀ k, k < w.heap.size → ¬ S k → w'.heap[k]? = w.heap[k]?

theorem Kept.refl (S : Nat → Prop) (w : World) : Kept S w w := ⟨rfl, rfl, rfl, Nat.le_refl _, fun _ _ _ => rfl⟩
theorem Kept.trans {S : Nat → Prop} {a b c : World} (h : Kept S a b) (k : Kept S b c) : Kept S a c :=
  ⟨k.os.trans h.os, k.tape.trans h.tape, k.output.trans h.output, Nat.le_trans h.size k.size, fun i hi hn => (k.block i (Nat.lt_of_lt_of_le hi h.size) hn).trans (h.block i hi hn)⟩
theorem Kept.alloc {S : Nat → Prop} {a w : World} (h : Kept S a w) (o : Obj) : Kept S a (w.alloc o) :=
  h.trans ⟨rfl, rfl, rfl, by simp, fun k hk _ => Below.heap_alloc _ _ _ hk⟩
theorem Kept.drew {S : Nat → Prop} {a w : World} (h : Kept S a w) : Kept S a w.drew := ⟨h.os, h.tape, h.output, h.size, h.block⟩
theorem Kept.setCell {S : Nat → Prop} {a w : World} (h : Kept S a w) {p : Addr} (hp : S p.block) (u : Value) : Kept S a (w.setCell p u) :=
  h.trans ⟨rfl, rfl, rfl, by simp, fun k _ hn => Below.heap_setCell _ _ _ _ (fun e => hn (e ▸ hp))⟩
theorem Kept.grown {S : Nat → Prop} {a w w' : World} {row : Option Nat} (h : Kept S a w) (hg : w.grownBy w' row) (hr : ∀ k, row = some k → S k) : Kept S a w' :=
  h.trans ⟨hg.os, hg.tape, hg.output, hg.size, fun k hk hn => hg.block k hk (fun e => hn (hr k e.symm))⟩
theorem Kept.widen {S T : Nat → Prop} {a w : World} (h : Kept S a w) (hs : ∀ k, S k → T k) : Kept T a w := ⟨h.os, h.tape, h.output, h.size, fun k hk hn => h.block k hk (fun e => hn (hs k e))⟩
theorem Kept.below {S : Nat → Prop} {a w : World} (h : Kept S a w) {B : Nat} (hB : B ≤ a.heap.size) (hs : ∀ k, S k → B ≤ k) : Below B a w :=
  ⟨h.os, h.tape, h.output, h.size, fun k hk => h.block k (by omega) (fun e => by have := hs k e; omega)⟩
end Go.Proofs.Ybulkexpzq
