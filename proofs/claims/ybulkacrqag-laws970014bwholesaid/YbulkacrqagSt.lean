/-
  Seat b970014a: what memory holds while the law looks: the datum's box, the network, the chain's links and their expected times, the target's link and its expected times.
-/
import Derived.Test.YbulkacrqagMem
namespace Go.Proofs.Ybulkacrqag
open Go.RowKit

theorem Yba.info36 : (Yba.prog.info? 36).map (fun i => (i.zero, i.size, i.bytes)) = some (some (.agg #[.int .i64 0, .int .i64 0, .int .i64 0, .int .i64 0, .int .i64 0]), 5, 40) := by kernel_rfl
theorem Yba.info34 : (Yba.prog.info? 34).map (fun i => (i.zero, i.size, i.bytes)) = some (some (.agg #[.int .i64 0, .int .i64 0]), 2, 16) := by kernel_rfl

def datC (b d u n : Int) : List Value := [.int .i64 b, .int .i64 d, .int .i64 u, .int .i64 n]
/-- The data of a chain that is read. -/
def ChainAt (w : World) (ao : Option Addr) (n : Nat) (Bf Df Uf Nf : Nat → Int) : Prop :=
  ∀ i, i < n → ∃ b off, ao = some ⟨b, off, none⟩ ∧ b < w.heap.size ∧ w.rangeAt b (off + i * 4) (datC (Bf i) (Df i) (Uf i) (Nf i))

theorem ChainAt.below {w w' : World} {ao : Option Addr} {n : Nat} {Bf Df Uf Nf : Nat → Int} (h : ChainAt w ao n Bf Df Uf Nf) (hb : Below w.heap.size w w') : ChainAt w' ao n Bf Df Uf Nf := by
  intro i hi
  obtain ⟨b, off, ha, hl, hr⟩ := h i hi
  exact ⟨b, off, ha, Nat.lt_of_lt_of_le hl hb.size, fun t v hv => (hb.cell (p := ⟨b, off + i * 4 + t, none⟩) hl).trans (hr t v hv)⟩
theorem range_kept {S : Nat → Prop} {w w' : World} {g o : Nat} {cs : List Value} (h : w.rangeAt g o cs) (hk : Kept S w w') (hg : g < w.heap.size) (hs : ¬ S g) : w'.rangeAt g o cs :=
  fun t v hv => (World.cell?_of_block (hk.block g hg hs)).trans (h t v hv)
theorem datC_len (b d u n : Int) : (datC b d u n).length = 4 := rfl
theorem ints_one (l : List Int) : ∀ v ∈ l.map (Value.int .i64), v.oneCell' = true := ints_oneCell .i64 l
theorem linkC_one (rt d ro u n : Int) : ∀ v ∈ linkC rt d ro u n, v.oneCell' = true := ints_oneCell .i64 [rt, d, ro, u, n]
def freeC (u n : Int) : List Value := [.int .i64 u, .int .i64 n]
theorem freeC_one (u n : Int) : ∀ v ∈ freeC u n, v.oneCell' = true := ints_oneCell .i64 [u, n]
theorem size36 (rt d ro u n : Int) : (Yba.prog.info? 36).map (·.size) = some (linkC rt d ro u n).length := by kernel_rfl
theorem size34 (u n : Int) : (Yba.prog.info? 34).map (·.size) = some (freeC u n).length := by kernel_rfl
theorem size24 (b d u n : Int) : (Yba.prog.info? 24).map (·.size) = some (datC b d u n).length := by kernel_rfl
theorem ld24 {w : World} {g o : Nat} {b d u n : Int} (h : w.rangeAt g o (datC b d u n)) : (ldS (.pointer (some ⟨g, o, none⟩)) 24).run Yba.prog w = .ok (.agg #[.int .i64 b, .int .i64 d, .int .i64 u, .int .i64 n]) w :=
  ld_run (cs := datC b d u n) Yba.underlying24 rfl (size24 b d u n) h
theorem mod_nat (r : Int) (n : Nat) : ∃ a : Nat, (IntKind.u64.wrap r).tmod ((n : Int) + 1) = (a : Int) ∧ a ≤ n := by
  have h0 : 0 ≤ IntKind.u64.wrap r := by rw [IntKind.wrap_u64]; omega
  have h1 := Int.tmod_nonneg ((n : Int) + 1) h0
  have h2 := Int.tmod_lt_of_pos (IntKind.u64.wrap r) (show 0 < (n : Int) + 1 by omega)
  exact ⟨((IntKind.u64.wrap r).tmod ((n : Int) + 1)).toNat, by omega, by omega⟩

theorem rate_ne (b : Int) : rate b ≠ 0 := by unfold rate; split <;> omega

/-- The six blocks are six. -/
def Six (B b10 bn bl be bt bf : Nat) : Prop :=
  (b10 ≠ bn ∧ b10 ≠ bl ∧ b10 ≠ be ∧ b10 ≠ bt ∧ b10 ≠ bf) ∧ (bn ≠ bl ∧ bn ≠ be ∧ bn ≠ bt ∧ bn ≠ bf) ∧ (bl ≠ be ∧ bl ≠ bt ∧ bl ≠ bf) ∧ (be ≠ bt ∧ be ≠ bf) ∧ bt ≠ bf ∧ B ≤ bl ∧ B ≤ be ∧ B ≤ bt ∧ B ≤ bf

structure St (B : Nat) (w0 w : World) (b10 bn bl be bt bf n t : Nat) (tb td tu tn : Int) (Bf Df U N U' N' : Nat → Int) (x y x' y' : Int) : Prop where
  box : w.heap[b10]? = some (.cells (datC tb td tu tn).toArray 24 (0, 0))
  net : w.heap[bn]? = some (.cells ([.slice none 0 0, .slice none 0 0, .slice (some ⟨bl, 0, none⟩) n n] : List Value).toArray 29 (0, 0))
  chn : w.heap[bl]? = some (.cells (rows (fun i => linkC (rate (Bf i)) (Df i) 0 (U i) (N i)) n).toArray 36 (0, 0))
  exp : w.heap[be]? = some (.cells (rows (fun i => freeC (U' i) (N' i)) n).toArray 34 (0, 0))
  tl : w.heap[bt]? = some (.cells (linkC (rate tb) td (1 + (t : Int)) x y).toArray 36 (0, 0))
  tf : w.heap[bf]? = some (.cells (freeC x' y').toArray 34 (0, 0))
  bel : Below B w0 w
  six : Six B b10 bn bl be bt bf
  old : B ≤ w.heap.size

section
variable {B : Nat} {w0 w w' : World} {b10 bn bl be bt bf n t : Nat} {tb td tu tn : Int} {Bf Df U N U' N' : Nat → Int} {x y x' y' : Int}

theorem St.kept (h : St B w0 w b10 bn bl be bt bf n t tb td tu tn Bf Df U N U' N' x y x' y') (hk : Kept (fun _ => False) w w') : St B w0 w' b10 bn bl be bt bf n t tb td tu tn Bf Df U N U' N' x y x' y' :=
  ⟨(hk.block _ (block_lt h.box) (fun e => e)).trans h.box, (hk.block _ (block_lt h.net) (fun e => e)).trans h.net, (hk.block _ (block_lt h.chn) (fun e => e)).trans h.chn, (hk.block _ (block_lt h.exp) (fun e => e)).trans h.exp,
    (hk.block _ (block_lt h.tl) (fun e => e)).trans h.tl, (hk.block _ (block_lt h.tf) (fun e => e)).trans h.tf, h.bel.trans (hk.below h.old (fun _ e => e.elim)), h.six, Nat.le_trans h.old hk.size⟩

/-- A function turned at one place. -/
def upd (F : Nat → Int) (j : Nat) (v : Int) : Nat → Int := fun i => if i = j then v else F i
theorem upd_at (F : Nat → Int) (j : Nat) (v : Int) : upd F j v j = v := if_pos rfl
theorem upd_ne (F : Nat → Int) {i j : Nat} (v : Int) (h : i ≠ j) : upd F j v i = F i := if_neg h

theorem St.setTf (h : St B w0 w b10 bn bl be bt bf n t tb td tu tn Bf Df U N U' N' x y x' y') (v : Int) : St B w0 (w.setCell ⟨bf, 1, none⟩ (.int .i64 v)) b10 bn bl be bt bf n t tb td tu tn Bf Df U N U' N' x y x' v := by
  obtain ⟨⟨_, _, _, _, s1⟩, ⟨_, _, _, s2⟩, ⟨_, _, s3⟩, ⟨_, s4⟩, s5, _, _, _, s6⟩ := h.six
  exact ⟨(Below.heap_setCell _ _ _ _ s1).trans h.box, (Below.heap_setCell _ _ _ _ s2).trans h.net, (Below.heap_setCell _ _ _ _ s3).trans h.chn, (Below.heap_setCell _ _ _ _ s4).trans h.exp, (Below.heap_setCell _ _ _ _ s5).trans h.tl,
    setCell_heap bf 34 _ 1 w _ h.tf, h.bel.setCell s6 _, h.six, by simpa using h.old⟩
theorem St.setTl (h : St B w0 w b10 bn bl be bt bf n t tb td tu tn Bf Df U N U' N' x y x' y') (v : Int) : St B w0 (w.setCell ⟨bt, 4, none⟩ (.int .i64 v)) b10 bn bl be bt bf n t tb td tu tn Bf Df U N U' N' x v x' y' := by
  obtain ⟨⟨_, _, _, s1, _⟩, ⟨_, _, s2, _⟩, ⟨_, s3, _⟩, ⟨s4, _⟩, s5, _, _, s6, _⟩ := h.six
  exact ⟨(Below.heap_setCell _ _ _ _ s1).trans h.box, (Below.heap_setCell _ _ _ _ s2).trans h.net, (Below.heap_setCell _ _ _ _ s3).trans h.chn, (Below.heap_setCell _ _ _ _ s4).trans h.exp,
    setCell_heap bt 36 _ 4 w _ h.tl, (Below.heap_setCell _ _ _ _ (fun e => s5 e.symm)).trans h.tf, h.bel.setCell s6 _, h.six, by simpa using h.old⟩
theorem link_len (Bf Df U N : Nat → Int) : ∀ i, ((fun i => linkC (rate (Bf i)) (Df i) 0 (U i) (N i)) i).length = 5 := fun _ => rfl
theorem free_len (U N : Nat → Int) : ∀ i, ((fun i => freeC (U i) (N i)) i).length = 2 := fun _ => rfl
theorem St.setExU (h : St B w0 w b10 bn bl be bt bf n t tb td tu tn Bf Df U N U' N' x y x' y') (j : Nat) (hj : j < n) (v : Int) : St B w0 (w.setCell ⟨be, j * 2, none⟩ (.int .i64 v)) b10 bn bl be bt bf n t tb td tu tn Bf Df U N (upd U' j v) N' x y x' y' := by
  obtain ⟨⟨_, _, s1, _, _⟩, ⟨_, s2, _, _⟩, ⟨s3, _, _⟩, ⟨s4, s5⟩, _, _, s6, _, _⟩ := h.six
  refine ⟨(Below.heap_setCell _ _ _ _ s1).trans h.box, (Below.heap_setCell _ _ _ _ s2).trans h.net, (Below.heap_setCell _ _ _ _ s3).trans h.chn, ?_, (Below.heap_setCell _ _ _ _ (fun e => s4 e.symm)).trans h.tl,
    (Below.heap_setCell _ _ _ _ (fun e => s5 e.symm)).trans h.tf, h.bel.setCell s6 _, h.six, by simpa using h.old⟩
  rw [setCell_heap be 34 _ (j * 2) w _ h.exp]
  rw [show j * 2 = j * 2 + 0 by omega, rows_set (free_len U' N') (h := fun i => freeC (upd U' j v i) (N' i)) (by simp only [upd_at]; rfl) (fun i hi => by simp only [upd_ne U' v hi]) (by omega) n hj]
theorem St.setExN (h : St B w0 w b10 bn bl be bt bf n t tb td tu tn Bf Df U N U' N' x y x' y') (j : Nat) (hj : j < n) (v : Int) : St B w0 (w.setCell ⟨be, j * 2 + 1, none⟩ (.int .i64 v)) b10 bn bl be bt bf n t tb td tu tn Bf Df U N U' (upd N' j v) x y x' y' := by
  obtain ⟨⟨_, _, s1, _, _⟩, ⟨_, s2, _, _⟩, ⟨s3, _, _⟩, ⟨s4, s5⟩, _, _, s6, _, _⟩ := h.six
  refine ⟨(Below.heap_setCell _ _ _ _ s1).trans h.box, (Below.heap_setCell _ _ _ _ s2).trans h.net, (Below.heap_setCell _ _ _ _ s3).trans h.chn, ?_, (Below.heap_setCell _ _ _ _ (fun e => s4 e.symm)).trans h.tl,
    (Below.heap_setCell _ _ _ _ (fun e => s5 e.symm)).trans h.tf, h.bel.setCell s6 _, h.six, by simpa using h.old⟩
  rw [setCell_heap be 34 _ (j * 2 + 1) w _ h.exp]
  rw [rows_set (free_len U' N') (h := fun i => freeC (U' i) (upd N' j v i)) (by simp only [upd_at]; rfl) (fun i hi => by simp only [upd_ne N' v hi]) (by omega) n hj]
theorem St.setChU (h : St B w0 w b10 bn bl be bt bf n t tb td tu tn Bf Df U N U' N' x y x' y') (j : Nat) (hj : j < n) (v : Int) : St B w0 (w.setCell ⟨bl, j * 5 + 3, none⟩ (.int .i64 v)) b10 bn bl be bt bf n t tb td tu tn Bf Df (upd U j v) N U' N' x y x' y' := by
  obtain ⟨⟨_, s1, _, _, _⟩, ⟨s2, _, _, _⟩, ⟨s3, s4, s5⟩, _, _, s6, _, _, _⟩ := h.six
  refine ⟨(Below.heap_setCell _ _ _ _ s1).trans h.box, (Below.heap_setCell _ _ _ _ s2).trans h.net, ?_, (Below.heap_setCell _ _ _ _ (fun e => s3 e.symm)).trans h.exp, (Below.heap_setCell _ _ _ _ (fun e => s4 e.symm)).trans h.tl,
    (Below.heap_setCell _ _ _ _ (fun e => s5 e.symm)).trans h.tf, h.bel.setCell s6 _, h.six, by simpa using h.old⟩
  rw [setCell_heap bl 36 _ (j * 5 + 3) w _ h.chn]
  rw [rows_set (link_len Bf Df U N) (h := fun i => linkC (rate (Bf i)) (Df i) 0 (upd U j v i) (N i)) (by simp only [upd_at]; rfl) (fun i hi => by simp only [upd_ne U v hi]) (by omega) n hj]
theorem St.setChN (h : St B w0 w b10 bn bl be bt bf n t tb td tu tn Bf Df U N U' N' x y x' y') (j : Nat) (hj : j < n) (v : Int) : St B w0 (w.setCell ⟨bl, j * 5 + 4, none⟩ (.int .i64 v)) b10 bn bl be bt bf n t tb td tu tn Bf Df U (upd N j v) U' N' x y x' y' := by
  obtain ⟨⟨_, s1, _, _, _⟩, ⟨s2, _, _, _⟩, ⟨s3, s4, s5⟩, _, _, s6, _, _, _⟩ := h.six
  refine ⟨(Below.heap_setCell _ _ _ _ s1).trans h.box, (Below.heap_setCell _ _ _ _ s2).trans h.net, ?_, (Below.heap_setCell _ _ _ _ (fun e => s3 e.symm)).trans h.exp, (Below.heap_setCell _ _ _ _ (fun e => s4 e.symm)).trans h.tl,
    (Below.heap_setCell _ _ _ _ (fun e => s5 e.symm)).trans h.tf, h.bel.setCell s6 _, h.six, by simpa using h.old⟩
  rw [setCell_heap bl 36 _ (j * 5 + 4) w _ h.chn]
  rw [rows_set (link_len Bf Df U N) (h := fun i => linkC (rate (Bf i)) (Df i) 0 (U i) (upd N j v i)) (by simp only [upd_at]; rfl) (fun i hi => by simp only [upd_ne N v hi]) (by omega) n hj]

theorem St.chCell (h : St B w0 w b10 bn bl be bt bf n t tb td tu tn Bf Df U N U' N' x y x' y') {j : Nat} (hj : j < n) (o : Nat) (ho : o < 5) : w.cell? ⟨bl, j * 5 + o, none⟩ = (linkC (rate (Bf j)) (Df j) 0 (U j) (N j))[o]? := by
  rw [block_cell h.chn, rows_at (link_len Bf Df U N) n j o hj ho]
theorem St.exCell (h : St B w0 w b10 bn bl be bt bf n t tb td tu tn Bf Df U N U' N' x y x' y') {j : Nat} (hj : j < n) (o : Nat) (ho : o < 2) : w.cell? ⟨be, j * 2 + o, none⟩ = (freeC (U' j) (N' j))[o]? := by
  rw [block_cell h.exp, rows_at (free_len U' N') n j o hj ho]
end

/-- Behind the law's own reckoning: onward gives X and Y, and behind it the links are as reckoned. -/
def Mid (B : Nat) (w0 : World) (b10 bn bl be bt bf n t a : Nat) (tb td tu tn : Int) (Bf Df : Nat → Int) (now size X Y : Int) (w : World) : Prop :=
  Calls Yba.prog 7 #[.pointer (some ⟨bn, 0, none⟩), .int .i64 now, .int .i64 (1 + (a : Int)), .pointer (some ⟨bt, 0, none⟩), .int .i64 size] w fun e w' =>
    e = .returned (.tuple #[.int .i64 X, .int .i64 Y]) ∧ ∃ U N x y, St B w0 w' b10 bn bl be bt bf n t tb td tu tn Bf Df U N U N x y x y
end Go.Proofs.Ybulkacrqag
