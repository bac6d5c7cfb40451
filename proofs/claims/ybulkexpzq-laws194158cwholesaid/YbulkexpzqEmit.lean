/-
  Seat b194158a: emitChar, by its contract, in its three ways: nothing pending; a pending run that goes on; a pending run that is flushed first.
-/
import Derived.Test.YbulkexpzqFlush
namespace Go.Proofs.Ybulkexpzq
open Go.RowKit

theorem enc_len (r : Int) : 0 < (enc r).length ∧ (enc r).length ≤ 4 := by
  unfold enc
  split
  · simp
  split
  · simp
  split
  · simp
  split <;> simp

theorem own_le {w : World} {base : Nat} {e : TypeId} {size g n c : Nat} {xs : List Value} (h : w.ownsRow base e size (.slice (some ⟨g, 0, none⟩) n c) n xs) : n ≤ c := by
  rcases h.2 with ⟨h, _⟩ | ⟨g', cap, cur, h, _, hh, h1, _⟩
  · cases h
  · cases h; exact h1
/-- Two rows of different element types lie in different blocks. -/
theorem own_ne_own {w : World} {b1 b2 : Nat} {e1 e2 : TypeId} {s1 s2 : Nat} {v2 : Value} {g n1 c1 n2 : Nat} {xs ys : List Value} (h1 : w.ownsRow b1 e1 s1 (.slice (some ⟨g, 0, none⟩) n1 c1) n1 xs) (h2 : w.ownsRow b2 e2 s2 v2 n2 ys) (he : e1 ≠ e2) : v2.ownBlock ≠ some g := by
  intro hv
  rcases h1.2 with ⟨h, _⟩ | ⟨g', cap, cur, h, _, hh, _⟩
  · cases h
  obtain rfl : g = g' := by cases h; rfl
  rcases h2.2 with ⟨rfl, _⟩ | ⟨g', cap', cur', rfl, _, hh', _⟩
  · simp [Value.ownBlock] at hv
  obtain rfl : g' = g := by simpa [Value.ownBlock] using hv
  rw [hh] at hh'
  cases hh'
  exact he rfl
theorem own_ne_tok {w : World} {bt : Nat} {tx ln : Value} {pos st : Int} {q tb : Value} {ts te s : Int} (hT : TokAt w bt tx ln pos st q tb ts te s) {base : Nat} {e : TypeId} {size : Nat} {v : Value} {n : Nat} {xs : List Value} (h : w.ownsRow base e size v n xs) (he : e ≠ 38) : v.ownBlock ≠ some bt := by
  intro hv
  rcases h.2 with ⟨rfl, _⟩ | ⟨g', cap', cur', rfl, _, hh', _⟩
  · simp [Value.ownBlock] at hv
  obtain rfl : g' = bt := by simpa [Value.ownBlock] using hv
  unfold TokAt at hT
  rw [hT] at hh'
  cases hh'
  exact he rfl
/-- 'string(b)' of an owned row of bytes, in every world that holds its block. -/
theorem own_conv {w : World} {base g n c : Nat} {ys : List Int} (h : w.ownsRow base 5 1 (.slice (some ⟨g, 0, none⟩) n c) n (ys.map (Value.int .u8))) :
    ∃ cur, w.heap[g]? = some (.cells cur 5 (0, 0)) ∧ ∀ w' : World, w'.heap[g]? = some (.cells cur 5 (0, 0)) → (convert 24 9 (.slice (some ⟨g, 0, none⟩) n c)).run Yba.prog w' = .ok (.string (strOfNums ys)) w' := by
  have hlen := h.1
  rcases h.2 with ⟨h, _⟩ | ⟨g', cap, cur, h, _, hh, _, _, _, htake⟩
  · cases h
  obtain ⟨rfl, rfl⟩ : g = g' ∧ c = cap := by cases h; exact ⟨rfl, rfl⟩
  refine ⟨cur, hh, fun w' hw' => ?_⟩
  refine run_convert_bytes_arg w' 24 5 Yba.underlying24 Yba.underlying5 g 0 n c ys (by simpa using hlen) ?_ 9 Yba.underlying9
  intro i hi
  have hl : ys.length = n := by simpa using hlen
  have : (cur.toList.take (n * 1))[i]? = some (.int .u8 (ys.getD i 0)) := by
    rw [htake]; simp [List.getD, show i < ys.length by omega]
  rw [List.getElem?_take] at this
  simp only [Nat.mul_one, hi, if_true] at this
  simp [World.cell?, hw']
  simpa using this
theorem own_cut {w w' : World} {base g n c : Nat} {ys : List Value} {cur : Array Value} (h : w.ownsRow base 5 1 (.slice (some ⟨g, 0, none⟩) n c) n ys) (hc : w.heap[g]? = some (.cells cur 5 (0, 0))) (hc' : w'.heap[g]? = some (.cells cur 5 (0, 0))) : w'.ownsRow base 5 1 (.slice (some ⟨g, 0, none⟩) 0 c) 0 [] := by
  rcases h.2 with ⟨h, _⟩ | ⟨g', cap, cur', h, hb, hh, h1, h2, h3, _⟩
  · cases h
  obtain ⟨rfl, rfl⟩ : g = g' ∧ c = cap := by cases h; exact ⟨rfl, rfl⟩
  rw [hc] at hh
  cases hh
  exact ⟨by simp, .inr ⟨g, c, cur, rfl, hb, hc', by omega, h2, h3, by simp⟩⟩

set_option maxRecDepth 100000 in
set_option maxHeartbeats 1000000 in
/-- emitChar, nothing pending. -/
theorem emit_A (w : World) (bt : Nat) (tx ln : Value) (pos st : Int) (q : Value) (bb cb : Nat) (ts te s : Int) (hT : TokAt w bt tx ln pos st q (.slice (some ⟨bb, 0, none⟩) 0 cb) ts te s)
    (base : Nat) (hb : base ≤ w.heap.size) (ht : w.ownsRow base 5 1 (.slice (some ⟨bb, 0, none⟩) 0 cb) 0 []) (n3 : bb ≠ bt)
    (r off : Int) (h1 : -2147483648 ≤ r) (h2 : r ≤ 2147483647) (o1 : 0 ≤ off) (o2 : off ≤ 2000000) :
    Calls Yba.prog 10 #[.pointer (some ⟨bt, 0, none⟩), .int .i32 r, .int .i64 off] w fun e w' => e = .returned (.tuple #[]) ∧
      ∃ tb', w'.ownsRow base 5 1 tb' (enc r).length ((enc r).map (Value.int .u8)) ∧ TokAt w' bt tx ln pos st q tb' off (off + 1) s ∧ Kept (fun k => k = bt ∨ k = bb) w w' := by
  have c12 : w.cell? ⟨bt, 12, none⟩ = some (.slice (some ⟨bb, 0, none⟩) 0 cb) := hT.cell 12
  have c13 : w.cell? ⟨bt, 13, none⟩ = some (.int .i64 ts) := hT.cell 13
  have c14 : w.cell? ⟨bt, 14, none⟩ = some (.int .i64 te) := hT.cell 14
  have hf := hT.frozen
  have lbt := hT.lt
  go_enter Yba.func10, Yba.ntmps10
  go_wp2_with fail
  refine (app_any r _ h1 h2 base _ 0 [] (own_setCell ht (by simp [Value.ownBlock]; omega) _) (by simpa using hb) (by omega)).mono ?_
  rintro e w1 ⟨v', rfl, ho, hg⟩
  rw [Nat.zero_add, List.nil_append] at ho
  obtain ⟨g, cap, hv, hbg, hgl⟩ := ho.form (enc_len r).1
  have hT1 : TokAt w1 bt tx ln pos st q (.slice (some ⟨bb, 0, none⟩) 0 cb) off te s := (hg.block bt (by simpa using lbt) (by simp [Value.ownBlock]; omega)).trans (hT.setTs off)
  have hK : Kept (fun k => k = bt ∨ k = bb) w w1 := ((Kept.refl _ w).setCell (Or.inl rfl) _).grown hg (fun k hk => Or.inr (by simpa [Value.ownBlock] using hk.symm))
  have d12 : w1.cell? ⟨bt, 12, none⟩ = some (.slice (some ⟨bb, 0, none⟩) 0 cb) := hT1.cell 12
  have d14 : w1.cell? ⟨bt, 14, none⟩ = some (.int .i64 te) := hT1.cell 14
  have hf1 := hT1.frozen
  rw [hv] at ho
  rw [hv]
  clear hv hg c12 c13 c14 hf
  go_wp2
  go_end0
  refine ⟨rfl, _, ?_, (hT1.setTb _).setTe _, (hK.setCell (Or.inl rfl) _).setCell (Or.inl rfl) _⟩
  have hne := own_ne_tok hT1 ho (by decide)
  exact own_setCell (own_setCell ho hne _) hne _

set_option maxRecDepth 100000 in
set_option maxHeartbeats 1000000 in
/-- emitChar, a pending run that goes on. -/
theorem emit_C (w : World) (bt : Nat) (tx ln : Value) (pos st : Int) (q : Value) (bb lb cb : Nat) (ts s : Int) (r off : Int) (hT : TokAt w bt tx ln pos st q (.slice (some ⟨bb, 0, none⟩) lb cb) ts off s)
    (base : Nat) (hb : base ≤ w.heap.size) (ys : List Value) (ht : w.ownsRow base 5 1 (.slice (some ⟨bb, 0, none⟩) lb cb) lb ys) (hl : 0 < lb) (hl2 : lb ≤ 2000000)
    (h1 : -2147483648 ≤ r) (h2 : r ≤ 2147483647) (o1 : 0 ≤ off) (o2 : off ≤ 2000000) :
    Calls Yba.prog 10 #[.pointer (some ⟨bt, 0, none⟩), .int .i32 r, .int .i64 off] w fun e w' => e = .returned (.tuple #[]) ∧
      ∃ tb', w'.ownsRow base 5 1 tb' (lb + (enc r).length) (ys ++ (enc r).map (Value.int .u8)) ∧ TokAt w' bt tx ln pos st q tb' ts (off + 1) s ∧ Kept (fun k => k = bt ∨ k = bb) w w' := by
  have c12 : w.cell? ⟨bt, 12, none⟩ = some (.slice (some ⟨bb, 0, none⟩) lb cb) := hT.cell 12
  have c14 : w.cell? ⟨bt, 14, none⟩ = some (.int .i64 off) := hT.cell 14
  have lbt := hT.lt
  have hl0 : ((lb : Int) == 0) = false := by simp; omega
  have hl1 : (0 : Int) < (lb : Int) := by omega
  have n3 : bb ≠ bt := fun e => own_ne_tok hT ht (by decide) (by rw [e]; rfl)
  go_enter Yba.func10, Yba.ntmps10
  go_wp2_with fail
  refine (app_any r _ h1 h2 base _ lb ys ht hb (by omega)).mono ?_
  rintro e w1 ⟨v', rfl, ho, hg⟩
  obtain ⟨g, cap, hv, hbg, hgl⟩ := ho.form (by omega)
  have hT1 : TokAt w1 bt tx ln pos st q (.slice (some ⟨bb, 0, none⟩) lb cb) ts off s := (hg.block bt lbt (by simp [Value.ownBlock]; omega)).trans hT
  have hK : Kept (fun k => k = bt ∨ k = bb) w w1 := (Kept.refl _ w).grown hg (fun k hk => Or.inr (by simpa [Value.ownBlock] using hk.symm))
  have d12 : w1.cell? ⟨bt, 12, none⟩ = some (.slice (some ⟨bb, 0, none⟩) lb cb) := hT1.cell 12
  have d14 : w1.cell? ⟨bt, 14, none⟩ = some (.int .i64 off) := hT1.cell 14
  have hf1 := hT1.frozen
  rw [hv] at ho
  rw [hv]
  clear hv hg c12 c14
  go_wp2
  go_end0
  refine ⟨rfl, _, ?_, (hT1.setTb _).setTe _, (hK.setCell (Or.inl rfl) _).setCell (Or.inl rfl) _⟩
  have hne := own_ne_tok hT1 ho (by decide)
  exact own_setCell (own_setCell ho hne _) hne _

set_option maxRecDepth 100000 in
set_option maxHeartbeats 1000000 in
/-- emitChar, a pending run that is flushed first. -/
theorem emit_B (w : World) (bt : Nat) (tx ln : Value) (pos st : Int) (q : Value) (bb lb cb : Nat) (ts te s : Int) (r off : Int) (hT : TokAt w bt tx ln pos st q (.slice (some ⟨bb, 0, none⟩) lb cb) ts te s)
    (base : Nat) (hb : base ≤ w.heap.size) (ys : List Int) (ht : w.ownsRow base 5 1 (.slice (some ⟨bb, 0, none⟩) lb cb) lb (ys.map (Value.int .u8))) (hl : 0 < lb) (hl2 : lb ≤ 2000000)
    (m : Nat) (qs : List Value) (hown : w.ownsRow base 31 9 q m qs) (hm : m ≤ 2000000)
    (h1 : -2147483648 ≤ r) (h2 : r ≤ 2147483647) (o1 : 0 ≤ off) (o2 : off ≤ 2000000) (hne : te ≠ off) :
    Calls Yba.prog 10 #[.pointer (some ⟨bt, 0, none⟩), .int .i32 r, .int .i64 off] w fun e w' => e = .returned (.tuple #[]) ∧
      ∃ q' tb', w'.ownsRow base 5 1 tb' (enc r).length ((enc r).map (Value.int .u8)) ∧ w'.ownsRow base 31 9 q' (m + 1) (qs ++ tokenC (strOfNums ys) ts te) ∧
        TokAt w' bt tx ln pos st q' tb' off (off + 1) s ∧ Kept (fun k => k = bt ∨ k = bb ∨ q.ownBlock = some k) w w' := by
  have c12 : w.cell? ⟨bt, 12, none⟩ = some (.slice (some ⟨bb, 0, none⟩) lb cb) := hT.cell 12
  have c14 : w.cell? ⟨bt, 14, none⟩ = some (.int .i64 te) := hT.cell 14
  have lbt := hT.lt
  have hl0 : ((lb : Int) == 0) = false := by simp; omega
  have hl1 : (0 : Int) < (lb : Int) := by omega
  have hne1 : (te == off) = false := by simp; omega
  have hne2 : (te != off) = true := by simp; omega
  have n1 := own_ne_tok hT hown (by decide)
  have n3 : bb ≠ bt := fun e => own_ne_tok hT ht (by decide) (by rw [e]; rfl)
  have n2 : q.ownBlock ≠ some bb := own_ne_own ht hown (by decide)
  obtain ⟨cur, hcur, hcv⟩ := own_conv ht
  have hfl := fun (w : World) (hT) (hown) (hb) (hB) => flush_any w bt tx ln pos st q bb lb cb ts te s hT base m qs hown hb hm hl (own_le ht) (strOfNums ys) (.cells cur 5 (0, 0)) hB hcv n1
  have HF := hide hfl
  clear hfl hcv
  go_enter Yba.func10, Yba.ntmps10
  go_wp2_with fail
  refine (unhide HF _ hT hown hb hcur).mono ?_
  rintro e w1 ⟨rfl, gq, capq, hown1, hT1, hK1, hA1⟩
  have hcur1 : w1.heap[bb]? = some (.cells cur 5 (0, 0)) := (hK1.block bb (Array.getElem?_eq_some_iff.1 hcur).1 (by rintro (h | h); exact n3 h; exact n2 h)).trans hcur
  have ht1 : w1.ownsRow base 5 1 (.slice (some ⟨bb, 0, none⟩) 0 cb) 0 [] := own_cut ht hcur hcur1
  have e12 : w1.cell? ⟨bt, 12, none⟩ = some (.slice (some ⟨bb, 0, none⟩) 0 cb) := hT1.cell 12
  have e13 : w1.cell? ⟨bt, 13, none⟩ = some (.int .i64 ts) := hT1.cell 13
  have hf0 := hT1.frozen
  clear c12 c14
  go_wp2_with fail
  refine (app_any r _ h1 h2 base _ 0 [] (own_setCell ht1 (by simp [Value.ownBlock]; omega) _) (by simpa using Nat.le_trans hb hK1.size) (by omega)).mono ?_
  rintro e w2 ⟨v', rfl, ho, hg⟩
  rw [Nat.zero_add, List.nil_append] at ho
  obtain ⟨g, cap, hv, hbg, hgl⟩ := ho.form (enc_len r).1
  have hT2 : TokAt w2 bt tx ln pos st (.slice (some ⟨gq, 0, none⟩) (m + 1) capq) (.slice (some ⟨bb, 0, none⟩) 0 cb) off te s := (hg.block bt (by simpa using hT1.lt) (by simp [Value.ownBlock]; omega)).trans (hT1.setTs off)
  have hown2 : w2.ownsRow base 31 9 (.slice (some ⟨gq, 0, none⟩) (m + 1) capq) (m + 1) (qs ++ tokenC (strOfNums ys) ts te) :=
    (own_setCell hown1 (own_ne_tok hT1 hown1 (by decide)) _).kept hg (Or.inr (by have := own_ne_own ht1 hown1 (by decide); simpa [Value.ownBlock] using this))
  have hK : Kept (fun k => k = bt ∨ k = bb ∨ q.ownBlock = some k) w w2 :=
    ((hK1.widen (fun k hk => by rcases hk with h | h; exact Or.inl h; exact Or.inr (Or.inr h))).setCell (Or.inl rfl) _).grown hg (fun k hk => Or.inr (Or.inl (by simpa [Value.ownBlock] using hk.symm)))
  have d12 : w2.cell? ⟨bt, 12, none⟩ = some (.slice (some ⟨bb, 0, none⟩) 0 cb) := hT2.cell 12
  have d14 : w2.cell? ⟨bt, 14, none⟩ = some (.int .i64 te) := hT2.cell 14
  have hf1 := hT2.frozen
  rw [hv] at ho
  rw [hv]
  clear hv hg e12 e13 hf0
  go_wp2
  go_end0
  refine ⟨rfl, _, _, ?_, ?_, (hT2.setTb _).setTe _, (hK.setCell (Or.inl rfl) _).setCell (Or.inl rfl) _⟩
  · have hne := own_ne_tok hT2 ho (by decide)
    exact own_setCell (own_setCell ho hne _) hne _
  · have hne := own_ne_tok hT2 hown2 (by decide)
    exact own_setCell (own_setCell hown2 hne _) hne _
end Go.Proofs.Ybulkexpzq
