/-
  Seat b194158a: lessThanSign whole, all its ways in one contract: what the tokenizer holds behind the call.
-/
import Derived.Test.YbulkexpzqParts
namespace Go.Proofs.Ybulkexpzq
open Go.RowKit

/-- What is known of memory while the law looks at the tokenizer: the tokenizer in block bt, its text in block bs (the numbers zs), the text's copy in block bc, the queue's cells toks, the pending bytes ys; below B the world is as w0 was. -/
structure Post (B : Nat) (w0 w : World) (bt bs bc n f : Nat) (zs : List Int) (ln : Value) (pos st : Int) (q tb : Value) (ts te : Int) (m : Nat) (toks : List Value) (ys : List Int) : Prop where
  tok : TokAt w bt (.slice (some ⟨bs, 0, none⟩) n n) ln pos st q tb ts te f
  src : w.heap[bs]? = some (.cells (zs.map (Value.int .i32)).toArray 21 (0, 0))
  cpy : w.heap[bc]? = some (.cells (zs.map (Value.int .i32)).toArray 21 (0, 0))
  que : w.ownsRow B 31 9 q m toks
  buf : w.ownsRow B 5 1 tb ys.length (ys.map (Value.int .u8))
  bel : Below B w0 w

/-- Nothing of it hangs on what else is laid. -/
theorem Post.kept {B : Nat} {w0 w w' : World} {bt bs bc n f : Nat} {zs : List Int} {ln : Value} {pos st : Int} {q tb : Value} {ts te : Int} {m : Nat} {toks : List Value} {ys : List Int}
    (h : Post B w0 w bt bs bc n f zs ln pos st q tb ts te m toks ys) (hk : Kept (fun _ => False) w w') (hB : B ≤ w.heap.size) : Post B w0 w' bt bs bc n f zs ln pos st q tb ts te m toks ys :=
  ⟨(hk.block bt h.tok.lt (fun e => e)).trans h.tok, (hk.block bs (Array.getElem?_eq_some_iff.1 h.src).1 (fun e => e)).trans h.src, (hk.block bc (Array.getElem?_eq_some_iff.1 h.cpy).1 (fun e => e)).trans h.cpy,
    h.que.kept (row := none) ⟨hk.os, hk.tape, hk.output, hk.size, fun k hk' _ => hk.block k hk' (fun e => e)⟩ (by cases hv : q.ownBlock <;> simp),
    h.buf.kept (row := none) ⟨hk.os, hk.tape, hk.output, hk.size, fun k hk' _ => hk.block k hk' (fun e => e)⟩ (by cases hv : tb.ownBlock <;> simp),
    h.bel.trans (hk.below hB (fun _ e => e.elim))⟩

theorem own_kept {w w' : World} {S : Nat → Prop} {base : Nat} {e : TypeId} {size : Nat} {v : Value} {n : Nat} {xs : List Value} (h : w.ownsRow base e size v n xs) (hk : Kept S w w') (hs : ∀ k, v.ownBlock = some k → ¬ S k) : w'.ownsRow base e size v n xs := by
  refine ⟨h.1, ?_⟩
  rcases h.2 with hn | ⟨g, cap, cur, rfl, hb, hgg, rest⟩
  · exact .inl hn
  · exact .inr ⟨g, cap, cur, rfl, hb, (hk.block g (Array.getElem?_eq_some_iff.1 hgg).1 (hs g rfl)).trans hgg, rest⟩

theorem elem_eq {w : World} {k : Nat} {a b : Array Value} {e1 e2 : TypeId} {f1 f2 : Nat × Nat} (h1 : w.heap[k]? = some (.cells a e1 f1)) (h2 : w.heap[k]? = some (.cells b e2 f2)) : e1 = e2 := by
  have := h1.symm.trans h2
  simp only [Option.some.injEq, Obj.cells.injEq] at this
  exact this.2.1

/-- The making of the tokenizer, behind a name that the walk does not open. -/
def bldTok (ps : Array (Nat × Value)) : Sem Value := Instr.build 38 ps
theorem bldTok_eq (ps : Array (Nat × Value)) : Instr.build 38 ps = bldTok ps := rfl
theorem bldTok_run (w : World) (a0 a1 a2 a3 : Addr) (n0 c0 n1 c1 n2 c2 n3 c3 : Nat) (pos ts te s : Int) :
    (bldTok #[(0, .slice (some a0) n0 c0), (1, .slice (some a1) n1 c1), (2, .int .i64 pos), (3, .int .i64 7), (4, .int .u8 5), (5, .int .u8 44), (10, .slice (some a2) n2 c2), (12, .slice (some a3) n3 c3), (13, .int .i64 ts), (14, .int .i64 te), (15, .int .i64 s)]).run Yba.prog w =
      .ok (.agg (tokC (.slice (some a0) n0 c0) (.slice (some a1) n1 c1) pos 5 (.slice (some a2) n2 c2) (.slice (some a3) n3 c3) ts te s).toArray) w := by
  kernel_rfl

/-- What the law says of the call: by c, by whether a run is pending, by where it ends. -/
def Outcome (c tst est pos bs be : Int) (f : Nat) (r : Int) (ys : List Int) (n11 : Nat) (pos' st' ts' te' : Int) (m' : Nat) (extra : List Value) (ys' : List Int) : Prop :=
  (c = 47 ∧ pos' = pos ∧ st' = est ∧ ts' = bs ∧ te' = be ∧ m' = n11 ∧ extra = [] ∧ ys' = ys) ∨
  (c ≠ 47 ∧ pos' = wrap64 (pos - 1) ∧ st' = tst ∧ te' = (f : Int) + 1 ∧
    ((ys = [] ∧ ts' = (f : Int) ∧ m' = n11 ∧ extra = [] ∧ ys' = enc r) ∨
     (ys ≠ [] ∧ be = (f : Int) ∧ ts' = bs ∧ m' = n11 ∧ extra = [] ∧ ys' = ys ++ enc r) ∨
     (ys ≠ [] ∧ be ≠ (f : Int) ∧ ts' = (f : Int) ∧ m' = n11 + 1 ∧ extra = tokenC (strOfNums ys) bs be ∧ ys' = enc r)))

theorem less_all (B : Nat) (w0 w : World) (bt bs bc n f : Nat) (zs : List Int) (ln : Value) (pos st : Int) (q : Value) (bb cb : Nat) (ts te : Int) (m : Nat) (toks : List Value) (ys : List Int)
    (h : Post B w0 w bt bs bc n f zs ln pos st q (.slice (some ⟨bb, 0, none⟩) ys.length cb) ts te m toks ys) (hB : B ≤ w.heap.size) (hBt : B ≤ bt) (hz : zs.length = n) (hf : f < n) (hn : n ≤ 1048576) (hm : m ≤ 1048576) (hy : ys.length ≤ 1048576)
    (hw : ∀ x ∈ zs, -2147483648 ≤ x ∧ x ≤ 2147483647) (c tst est : Int) :
    Calls Yba.prog 4 #[.pointer (some ⟨bt, 0, none⟩), .int .i32 c, .int .u8 tst, .int .u8 est] w fun e w' => e = .returned (.tuple #[]) ∧
      ∃ pos' st' q' tb' ts' te' m' extra ys', Post B w0 w' bt bs bc n f zs ln pos' st' q' tb' ts' te' m' (toks ++ extra) ys' ∧ Outcome c tst est pos ts te f (zs.getD f 0) ys m pos' st' ts' te' m' extra ys' := by
  have hT := h.tok
  have hlt1 : bs < w.heap.size := (Array.getElem?_eq_some_iff.1 h.src).1
  have hlt2 : bc < w.heap.size := (Array.getElem?_eq_some_iff.1 h.cpy).1
  -- no block of the tokenizer's own is the text's or its copy's
  have hdif : ∀ k, w.heap[k]? = some (.cells (zs.map (Value.int .i32)).toArray 21 (0, 0)) → k ≠ bt ∧ k ≠ bb ∧ q.ownBlock ≠ some k := by
    intro k hk
    refine ⟨?_, ?_, ?_⟩
    · intro e
      have h1 := hT
      unfold TokAt at h1
      rw [← e] at h1
      exact absurd (elem_eq hk h1) (by decide)
    · intro e
      rcases h.buf.2 with ⟨h1, _⟩ | ⟨g', cap, cur, h1, _, hh, _⟩
      · cases h1
      · cases h1
        rw [← e] at hh
        exact absurd (elem_eq hk hh) (by decide)
    · intro e
      rcases h.que.2 with ⟨h1, _⟩ | ⟨g', cap, cur, h1, _, hh, _⟩
      · rw [h1] at e; simp [Value.ownBlock] at e
      · rw [h1] at e
        have : g' = k := by simpa [Value.ownBlock] using e
        rw [this] at hh
        exact absurd (elem_eq hk hh) (by decide)
  obtain ⟨s1, s2, s3⟩ := hdif bs h.src
  obtain ⟨t1, t2, t3⟩ := hdif bc h.cpy
  by_cases hc : c = 47
  · subst hc
    refine (less_yes w bt _ _ _ _ _ _ _ _ _ hT tst est).mono ?_
    rintro e w' ⟨rfl, rfl⟩
    refine ⟨rfl, pos, est, q, _, ts, te, m, [], ys, ⟨hT.setSt est, ?_, ?_, ?_, ?_, ?_⟩, Or.inl ⟨rfl, rfl, rfl, rfl, rfl, rfl, rfl, rfl⟩⟩
    · exact (Below.heap_setCell _ _ _ _ s1).trans h.src
    · exact (Below.heap_setCell _ _ _ _ t1).trans h.cpy
    · rw [List.append_nil]; exact own_setCell h.que (own_ne_tok hT h.que (by decide)) _
    · exact own_setCell h.buf (own_ne_tok hT h.buf (by decide)) _
    · exact h.bel.setCell hBt _
  have hr : w.cell? ⟨bs, f, none⟩ = some (.int .i32 (zs.getD f 0)) := by
    obtain ⟨b, off, ha, hc⟩ := rowAt_block h.src f (by omega)
    cases ha
    rw [Nat.zero_add] at hc
    exact hc
  have hmem : zs.getD f 0 ∈ zs := by
    have : f < zs.length := by omega
    simp [List.getD, this]
  obtain ⟨hw1, hw2⟩ := hw _ hmem
  -- behind reconsume
  have fin : ∀ (w1 : World) (q' tb' : Value) (ts' te' : Int) (m' : Nat) (extra : List Value) (ys' : List Int), Post B w0 w1 bt bs bc n f zs ln pos st q' tb' ts' te' m' (toks ++ extra) ys' →
      Post B w0 ((w1.setCell ⟨bt, 2, none⟩ (.int .i64 (wrap64 (pos - 1)))).setCell ⟨bt, 4, none⟩ (.int .u8 tst)) bt bs bc n f zs ln (wrap64 (pos - 1)) tst q' tb' ts' te' m' (toks ++ extra) ys' := by
    intro w1 q' tb' ts' te' m' extra ys' h1
    exact ⟨(h1.tok.setPos _).setSt _, (Below.heap_setCell _ _ _ _ s1).trans ((Below.heap_setCell _ _ _ _ s1).trans h1.src), (Below.heap_setCell _ _ _ _ t1).trans ((Below.heap_setCell _ _ _ _ t1).trans h1.cpy),
      own_setCell (own_setCell h1.que (own_ne_tok h1.tok h1.que (by decide)) _) (own_ne_tok h1.tok h1.que (by decide)) _,
      own_setCell (own_setCell h1.buf (own_ne_tok h1.tok h1.buf (by decide)) _) (own_ne_tok h1.tok h1.buf (by decide)) _,
      (h1.bel.setCell hBt _).setCell hBt _⟩
  have hbb : B ≤ bb := by
    rcases h.buf.2 with ⟨h1, _⟩ | ⟨g', cap, cur, h1, hb, hh, _⟩
    · cases h1
    · cases h1; exact hb
  have hqq : ∀ k, q.ownBlock = some k → B ≤ k := fun k hk => (h.que.lt k hk).1
  have nbt : bb ≠ bt := fun e => own_ne_tok hT h.buf (by decide) (by rw [e]; rfl)
  by_cases hy0 : ys = []
  · subst hy0
    have hcall := emit_A w.drew bt _ ln pos st q bb cb ts te f hT B hB h.buf nbt (zs.getD f 0) f hw1 hw2 (by omega) (by omega)
    refine (less_no w bt bs n f ln pos st q _ ts te hT c tst est (zs.getD f 0) hc hf (by omega) hr _ hcall ?_).mono ?_
    · rintro w' ⟨tb', _, hT', _⟩
      exact ⟨q, tb', _, _, hT'⟩
    · rintro e w' ⟨rfl, w1, ⟨tb', ho, hT', hk⟩, rfl⟩
      have hk' : Kept (fun k => k = bt ∨ k = bb) w w1 := ((Kept.refl _ w).drew).trans hk
      refine ⟨rfl, _, _, q, tb', _, _, m, [], enc (zs.getD f 0), fin w1 q tb' _ _ m [] _ ⟨hT', ?_, ?_, ?_, ho, ?_⟩, Or.inr ⟨hc, rfl, rfl, rfl, Or.inl ⟨rfl, rfl, rfl, rfl, rfl⟩⟩⟩
      · exact (hk'.block bs hlt1 (by rintro (e | e); exact s1 e; exact s2 e)).trans h.src
      · exact (hk'.block bc hlt2 (by rintro (e | e); exact t1 e; exact t2 e)).trans h.cpy
      · rw [List.append_nil]
        exact own_kept h.que hk' (fun k hv hs => by
          rcases hs with e | e
          · subst e; exact own_ne_tok hT h.que (by decide) hv
          · subst e; exact own_ne_own h.buf h.que (by decide) hv)
      · exact h.bel.trans (hk'.below hB (by rintro k (e | e); omega; omega))
  · have hyp : 0 < ys.length := by cases ys with | nil => exact absurd rfl hy0 | cons y ys => simp
    by_cases hbe : te = (f : Int)
    · subst hbe
      have hcall := emit_C w.drew bt _ ln pos st q bb ys.length cb ts f (zs.getD f 0) f hT B hB _ h.buf hyp (by omega) hw1 hw2 (by omega) (by omega)
      refine (less_no w bt bs n f ln pos st q _ ts f hT c tst est (zs.getD f 0) hc hf (by omega) hr _ hcall ?_).mono ?_
      · rintro w' ⟨tb', _, hT', _⟩
        exact ⟨q, tb', _, _, hT'⟩
      · rintro e w' ⟨rfl, w1, ⟨tb', ho, hT', hk⟩, rfl⟩
        have hk' : Kept (fun k => k = bt ∨ k = bb) w w1 := ((Kept.refl _ w).drew).trans hk
        refine ⟨rfl, _, _, q, tb', _, _, m, [], ys ++ enc (zs.getD f 0), fin w1 q tb' _ _ m [] _ ⟨hT', ?_, ?_, ?_, ?_, ?_⟩, Or.inr ⟨hc, rfl, rfl, rfl, Or.inr (Or.inl ⟨hy0, rfl, rfl, rfl, rfl, rfl⟩)⟩⟩
        · exact (hk'.block bs hlt1 (by rintro (e | e); exact s1 e; exact s2 e)).trans h.src
        · exact (hk'.block bc hlt2 (by rintro (e | e); exact t1 e; exact t2 e)).trans h.cpy
        · rw [List.append_nil]
          exact own_kept h.que hk' (fun k hv hs => by
            rcases hs with e | e
            · subst e; exact own_ne_tok hT h.que (by decide) hv
            · subst e; exact own_ne_own h.buf h.que (by decide) hv)
        · rw [List.length_append, List.map_append]; exact ho
        · exact h.bel.trans (hk'.below hB (by rintro k (e | e); omega; omega))
    · have hcall := emit_B w.drew bt _ ln pos st q bb ys.length cb ts te f (zs.getD f 0) f hT B hB ys h.buf hyp (by omega) m toks h.que (by omega) hw1 hw2 (by omega) (by omega) hbe
      refine (less_no w bt bs n f ln pos st q _ ts te hT c tst est (zs.getD f 0) hc hf (by omega) hr _ hcall ?_).mono ?_
      · rintro w' ⟨q', tb', _, _, hT', _⟩
        exact ⟨q', tb', _, _, hT'⟩
      · rintro e w' ⟨rfl, w1, ⟨q', tb', ho, hoq, hT', hk⟩, rfl⟩
        have hk' : Kept (fun k => k = bt ∨ k = bb ∨ q.ownBlock = some k) w w1 := ((Kept.refl _ w).drew).trans hk
        refine ⟨rfl, _, _, q', tb', _, _, m + 1, _, enc (zs.getD f 0), fin w1 q' tb' _ _ (m + 1) _ _ ⟨hT', ?_, ?_, hoq, ho, ?_⟩, Or.inr ⟨hc, rfl, rfl, rfl, Or.inr (Or.inr ⟨hy0, hbe, rfl, rfl, rfl, rfl⟩)⟩⟩
        · exact (hk'.block bs hlt1 (by rintro (e | e | e); exact s1 e; exact s2 e; exact s3 e)).trans h.src
        · exact (hk'.block bc hlt2 (by rintro (e | e | e); exact t1 e; exact t2 e; exact t3 e)).trans h.cpy
        · exact h.bel.trans (hk'.below hB (by rintro k (e | e | e); omega; omega; exact hqq k e))
end Go.Proofs.Ybulkexpzq
