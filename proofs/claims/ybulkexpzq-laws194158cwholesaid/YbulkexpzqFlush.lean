/-
  Seat b194158a: flushText, by its contract: the pending run becomes a token at the queue's end.
-/
import Derived.Test.YbulkexpzqTok
import Derived.Deep.AppendLies
namespace Go.Proofs.Ybulkexpzq
open Go.RowKit
theorem Yba.info31 : (Yba.prog.info? 31).map (fun i => (i.zero, i.size, i.bytes)) = some (some (.agg #[.int .u8 0, .string ByteArray.empty, .slice none 0 0, .bool false, .pointer none, .pointer none, .bool false, .int .i64 0, .int .i64 0]), 9, 96) := by kernel_rfl
def tokenC (d : ByteArray) (s e : Int) : List Value := [.int .u8 1, .string d, .slice none 0 0, .bool false, .pointer none, .pointer none, .bool false, .int .i64 s, .int .i64 e]
theorem tokenC_one (d : ByteArray) (s e : Int) : ∀ u ∈ tokenC d s e, u.oneCell' = true := by
  intro u hu
  simp only [tokenC, List.mem_cons, List.not_mem_nil, or_false] at hu
  rcases hu with rfl | rfl | rfl | rfl | rfl | rfl | rfl | rfl | rfl <;> rfl

/-- append, behind a name that the walk does not open: its run is given by a hypothesis. -/
def appS (ts : Array TypeId) (ty : TypeId) (args : Array Value) : Sem Value := Builtin.append_ ts ty args
theorem appS_eq (ts : Array TypeId) (ty : TypeId) (args : Array Value) : Builtin.append_ ts ty args = appS ts ty args := rfl
attribute [local go_sem ↓] appS_eq

theorem own_setCell {w : World} {base : Nat} {e : TypeId} {size : Nat} {v : Value} {n : Nat} {xs : List Value} (h : w.ownsRow base e size v n xs) {a : Addr} (ha : v.ownBlock ≠ some a.block) (u : Value) : (w.setCell a u).ownsRow base e size v n xs :=
  h.kept (w' := w.setCell a u) (row := some a.block) ⟨rfl, rfl, rfl, by simp, fun k _ hk => Below.heap_setCell _ _ _ _ (fun e => hk (by rw [e]))⟩ (Or.inr ha)

set_option maxRecDepth 100000 in
set_option maxHeartbeats 3200000 in
theorem flush_any (w : World) (bt : Nat) (tx ln : Value) (pos st : Int) (q : Value) (bb lb cb : Nat) (ts te s : Int) (hT : TokAt w bt tx ln pos st q (.slice (some ⟨bb, 0, none⟩) lb cb) ts te s)
    (base m : Nat) (qs : List Value) (hown : w.ownsRow base 31 9 q m qs) (hb : base ≤ w.heap.size) (hm : m ≤ 2000000) (hl : 0 < lb) (hlc : lb ≤ cb) 
    (d : ByteArray) (blk : Obj) (hB : w.heap[bb]? = some blk) (hcv : ∀ w' : World, w'.heap[bb]? = some blk → (convert 24 9 (.slice (some ⟨bb, 0, none⟩) lb cb)).run Yba.prog w' = .ok (.string d) w')
    (n1 : q.ownBlock ≠ some bt) :
    Calls Yba.prog 11 #[.pointer (some ⟨bt, 0, none⟩)] w fun e w' => e = .returned (.tuple #[]) ∧ ∃ g cap, w'.ownsRow base 31 9 (.slice (some ⟨g, 0, none⟩) (m + 1) cap) (m + 1) (qs ++ tokenC d ts te) ∧
      TokAt w' bt tx ln pos st (.slice (some ⟨g, 0, none⟩) (m + 1) cap) (.slice (some ⟨bb, 0, none⟩) 0 cb) ts te s ∧ Kept (fun k => k = bt ∨ q.ownBlock = some k) w w' ∧ (q.ownBlock = some g ∨ w.heap.size ≤ g) := by
  obtain ⟨i0, hi0, hz0, hz1, hz2⟩ := info_parts Yba.info31
  have c12 : w.cell? ⟨bt, 12, none⟩ = some (.slice (some ⟨bb, 0, none⟩) lb cb) := hT.cell 12
  have c10 : w.cell? ⟨bt, 10, none⟩ = some q := hT.cell 10
  have c13 : w.cell? ⟨bt, 13, none⟩ = some (.int .i64 ts) := hT.cell 13
  have c14 : w.cell? ⟨bt, 14, none⟩ = some (.int .i64 te) := hT.cell 14
  have hf := hT.frozen
  have lbt := hT.lt
  have lbb : bb < w.heap.size := (Array.getElem?_eq_some_iff.1 hB).1
  have hl0 : ((lb : Int) == 0) = false := by simp; omega
  have cv : (convert 24 9 (.slice (some ⟨bb, 0, none⟩) lb cb)).run Yba.prog w.drew = .ok (.string d) w.drew := hcv _ hB
  have cv2 : (convert 24 9 (.slice (some ⟨bb, 0, none⟩) lb cb)).run Yba.prog w = .ok (.string d) w := hcv _ hB
  clear hcv
  obtain ⟨g, cap, w1, hrun, hown1, hgrow, hat, hlt⟩ := run_append_lies (P := Yba.prog) (w.alloc (.cells (tokenC d ts te).toArray 31)).drew 26 26 base 31 i0 _ 9 96 Yba.underlying26 hi0 hz0 hz1 hz2 rfl (by omega) q m qs ((hown.alloc _).drew)
        ⟨w.heap.size, 0, none⟩ 1 1 (tokenC d ts te) rfl (World.news_of_block (cs := (tokenC d ts te).toArray) (t := 31) (fr := (0, 0)) (heap_alloc_new w _)) (tokenC_one d ts te)
        (by omega) (by unfold maxLen; omega) (by omega) (by simp; omega) (w.heap.size + 1) (by simp)
  simp only [tokenC] at hrun
  rw [appS_eq] at hrun
  have hf1 : w1.frozen? ⟨bt, 10, none⟩ = false := (hgrow.frozen_far _ (by simp; omega) (Ne.symm n1)).trans ((World.frozen?_alloc_past _ _ _ lbt).trans (hf 10)); 
  have hc1 : w1.cell? ⟨bt, 10, none⟩ = some q := (hgrow.cell_far _ (by simp; omega) (Ne.symm n1)).trans ((World.cell?_alloc_past _ _ _ lbt).trans c10)
  have hc2 : w1.cell? ⟨bt, 12, none⟩ = some (.slice (some ⟨bb, 0, none⟩) lb cb) := (hgrow.cell_far _ (by simp; omega) (Ne.symm n1)).trans ((World.cell?_alloc_past _ _ _ lbt).trans c12)
  have hf2 : w1.frozen? ⟨bt, 12, none⟩ = false := (hgrow.frozen_far _ (by simp; omega) (Ne.symm n1)).trans ((World.frozen?_alloc_past _ _ _ lbt).trans (hf 12))
  have hT1 : TokAt w1 bt tx ln pos st q (.slice (some ⟨bb, 0, none⟩) lb cb) ts te s := (hgrow.block bt (by simp; omega) (Ne.symm n1)).trans ((Below.heap_alloc _ _ _ lbt).trans hT)
  have hK : Kept (fun k => k = bt ∨ q.ownBlock = some k) w w1 := (((Kept.refl _ w).alloc _).drew).grown hgrow (fun k hk => Or.inr hk)
  have hA : q.ownBlock = some g ∨ w.heap.size ≤ g := by
    rcases hat with h | h
    · exact Or.inl h
    · exact Or.inr (by omega)
  have HA := hide hA
  have hbg : g ≠ bt := by
    rcases hat with h | h
    · intro e; subst e; exact n1 h
    · omega
  have HG := hide hgrow
  clear hgrow hat hA
  go_enter Yba.func11, Yba.ntmps11
  go_wp2_with fail
  go_region
  go_wp2
  go_end0
  refine ⟨rfl, g, cap, ?_, (hT1.setQ _).setTb _, (hK.setCell (Or.inl rfl) _).setCell (Or.inl rfl) _, HA.out⟩
  exact (own_setCell (own_setCell hown1 (by simp [Value.ownBlock]; omega) _) (by simp [Value.ownBlock]; omega) _)
end Go.Proofs.Ybulkexpzq
