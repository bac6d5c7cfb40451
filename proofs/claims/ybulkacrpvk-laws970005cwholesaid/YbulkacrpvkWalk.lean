/-
  Seat b970005a: notFound and the message, each by its contract; the law.
-/
import Derived.Test.YbulkacrpvkRows
import Derived.WalkKit
import Derived.WalkSpells
import Derived.WalkLawsBesides
import Derived.Lib.AppendStr
import Derived.Deep.AppendLies
import Derived.Deep.RegionHeld3
namespace Go.Proofs.Ybulkacrpvk
open Go.RowKit

theorem hide {p : Prop} (h : p) : Hid p := h
theorem unhide {p : Prop} (h : Hid p) : p := h
theorem Yba.info5 : (Yba.prog.info? 5).map (fun i => (i.zero, i.size, i.bytes)) = some (some (.int .u8 0), 1, 1) := by kernel_rfl

/-- append and make behind names that the walk does not open: their runs are given by hypotheses. -/
def appS (ts : Array TypeId) (ty : TypeId) (args : Array Value) : Sem Value := Builtin.append_ ts ty args
theorem appS_eq (ts : Array TypeId) (ty : TypeId) (args : Array Value) : Builtin.append_ ts ty args = appS ts ty args := rfl
def makeS (t : TypeId) (l c : Value) : Sem Value := Instr.makeSlice t l c
theorem makeS_eq (t : TypeId) (l c : Value) : Instr.makeSlice t l c = makeS t l c := rfl
attribute [local go_sem ↓] appS_eq makeS_eq

/-- The message: resource, a blank, the name in quotes, ' not found'. -/
def msg (r n : ByteArray) : ByteArray := r ++ ⟨#[32, 34]⟩ ++ n ++ ⟨#[34, 32, 110, 111, 116, 32, 102, 111, 117, 110, 100]⟩

set_option maxRecDepth 100000 in
set_option maxHeartbeats 400000 in
theorem nf_some (r n : ByteArray) (w : World) (hr : r.toList.isEmpty = false) (h1 : r.size ≤ 1048576) (h2 : n.size ≤ 1048576) :
    Calls Yba.prog 4 #[.string r, .string n] w fun e w' => e = .returned (.pointer (some ⟨w.heap.size, 0, none⟩)) ∧
      w' = w.alloc (.cells #[.int .i64 404, .string ⟨#[78, 111, 116, 70, 111, 117, 110, 100]⟩, .string (msg r n), .string n] 25) := by
  go_enter Yba.func4, Yba.ntmps4
  go_wp2
  go_ret
  exact ⟨rfl, rfl⟩

/-- The numbers of a string's bytes. -/
def nums (s : ByteArray) : List Int := s.data.toList.map fun b => (b.toNat : Int)
theorem strCells_nums (s : ByteArray) : Lib.strCells s = (nums s).map (Value.int .u8) := by simp [Lib.strCells, nums]
theorem nums_len (s : ByteArray) : (nums s).length = s.size := by rw [nums, List.length_map, Array.length_toList]; rfl
theorem nums_back (s : ByteArray) : (nums s).map (fun n => UInt8.ofNat n.toNat) = s.data.toList := by
  rw [nums, List.map_map]
  have : ((fun n : Int => UInt8.ofNat n.toNat) ∘ fun b : UInt8 => (b.toNat : Int)) = id := by funext b; simp
  rw [this, List.map_id]
theorem msg_nums (r n : ByteArray) : strOfNums (nums r ++ [32, 34] ++ nums n ++ [34, 32, 110, 111, 116, 32, 102, 111, 117, 110, 100]) = msg r n := by
  apply ByteArray.ext
  apply Array.ext'
  rw [strOfNums_data]
  simp only [List.map_append, nums_back, msg, ByteArray.data_append, Array.toList_append]
  rfl

theorem grown_of_alloc {w w2 : World} {o : Obj} {row : Option Nat} (h : (w.alloc o).grownBy w2 row) : w.grownBy w2 row :=
  ⟨h.os, h.tape, h.output, Nat.le_trans (by simp) h.size, fun k hk hr => (h.block k (by simp; omega) hr).trans (Below.heap_alloc w o k hk)⟩

/-- 'string(b)' of an owned row of bytes. -/
theorem own_string {w : World} {base : Nat} {v : Value} {ys : List Int} (h : w.ownsRow base 5 1 v ys.length (ys.map (Value.int .u8))) (hp : 0 < ys.length) : (convert 28 9 v).run Yba.prog w = .ok (.string (strOfNums ys)) w := by
  rcases h.2 with ⟨rfl, h0⟩ | ⟨g, cap, cur, rfl, _, hh, _, _, _, htake⟩
  · omega
  refine run_convert_bytes_arg w 28 5 Yba.underlying28 Yba.underlying5 g 0 _ cap ys rfl ?_ 9 Yba.underlying9
  intro i hi
  have : (cur.toList.take (ys.length * 1))[i]? = some (.int .u8 (ys.getD i 0)) := by
    rw [htake]; simp [List.getD, hi]
  rw [List.getElem?_take] at this
  simp only [Nat.mul_one, hi, if_true] at this
  simp [World.cell?, hh]
  simpa using this

/-- The runs of the message's four appends and of its conversion, over worlds that are letters. -/
theorem msg_chain (w : World) (r n : ByteArray) (h1 : r.size ≤ 1048576) (h2 : n.size ≤ 1048576) :
    ∃ w1 v2 w2 v3 w3 v4 w4 v5 w5, (makeS 28 (.int .i64 0) (.int .i64 ((r.size : Int) + n.size + 13))).run Yba.prog w = .ok (.slice (some ⟨w.heap.size, 0, none⟩) 0 (r.size + n.size + 13)) w1 ∧
      (appS #[28, 9] 28 #[.slice (some ⟨w.heap.size, 0, none⟩) 0 (r.size + n.size + 13), .string r]).run Yba.prog w1 = .ok v2 w2 ∧
      (appS #[28, 28] 28 #[v2, .slice (some ⟨w2.heap.size, 0, none⟩) 2 2]).run Yba.prog (w2.alloc (.cells #[.int .u8 32, .int .u8 34] 5)) = .ok v3 w3 ∧
      (appS #[28, 9] 28 #[v3, .string n]).run Yba.prog w3 = .ok v4 w4 ∧
      (appS #[28, 28] 28 #[v4, .slice (some ⟨w4.heap.size, 0, none⟩) 11 11]).run Yba.prog (w4.alloc (.cells #[.int .u8 34, .int .u8 32, .int .u8 110, .int .u8 111, .int .u8 116, .int .u8 32, .int .u8 102, .int .u8 111, .int .u8 117, .int .u8 110, .int .u8 100] 5)) = .ok v5 w5 ∧
      (convert 28 9 v5).run Yba.prog w5 = .ok (.string (msg r n)) w5 ∧ Below w.heap.size w w5 := by
  obtain ⟨i, hi, hz0, hz1, hz2⟩ := info_parts Yba.info5
  obtain ⟨w1, hr1, ho1, hg1⟩ := run_make_own (P := Yba.prog) w w.heap.size 28 5 i _ 1 Yba.underlying28 hi hz0 hz1 .i64 .i64 (r.size + n.size + 13) (by rw [hz2]; omega) (by unfold maxLen; omega) (Nat.le_refl _)
  have hb1 : Below w.heap.size w w1 := (Below.refl _ _).grown hg1 (Nat.le_refl _) (by intro k hk; cases hk)
  obtain ⟨v2, w2, hr2, ho2, hg2, _⟩ := Lib.run_append_own_string (P := Yba.prog) w1 w.heap.size 28 9 28 5 i Yba.underlying28 Yba.underlying9 hi hz0 hz1 hz2 _ 0 [] ho1 r (by unfold maxLen; omega) (by omega) hb1.size
  have hb2 : Below w.heap.size w w2 := hb1.grown hg2 hb1.size (fun k hk => (ho1.lt k hk).1)
  obtain ⟨v3, w3, hr3, ho3, hg3, _⟩ := run_append_own (P := Yba.prog) (w2.alloc (.cells #[.int .u8 32, .int .u8 34] 5)) w.heap.size 28 28 5 i _ 1 1 Yba.underlying28 hi hz0 hz1 hz2 rfl (by omega) v2 _ _ (ho2.alloc _)
    ⟨w2.heap.size, 0, none⟩ 2 2 (([32, 34] : List Int).map (Value.int .u8)) rfl (World.news_of_block (cs := (([32, 34] : List Int).map (Value.int .u8)).toArray) (heap_alloc_new w2 _)) (ints_oneCell _ _) (by unfold maxLen; omega) (by omega) (by have := hb2.size; simp; omega)
  have hb3 : Below w.heap.size w w3 := (hb2.alloc hb2.size _).grown hg3 (by have := hb2.size; simp; omega) (fun k hk => (ho2.lt k hk).1)
  obtain ⟨v4, w4, hr4, ho4, hg4, _⟩ := Lib.run_append_own_string (P := Yba.prog) w3 w.heap.size 28 9 28 5 i Yba.underlying28 Yba.underlying9 hi hz0 hz1 hz2 v3 _ _ ho3 n (by unfold maxLen; omega) (by omega) hb3.size
  have hb4 : Below w.heap.size w w4 := hb3.grown hg4 hb3.size (fun k hk => (ho3.lt k hk).1)
  obtain ⟨v5, w5, hr5, ho5, hg5, _⟩ := run_append_own (P := Yba.prog) (w4.alloc (.cells #[.int .u8 34, .int .u8 32, .int .u8 110, .int .u8 111, .int .u8 116, .int .u8 32, .int .u8 102, .int .u8 111, .int .u8 117, .int .u8 110, .int .u8 100] 5)) w.heap.size 28 28 5 i _ 1 1 Yba.underlying28 hi hz0 hz1 hz2 rfl (by omega) v4 _ _ (ho4.alloc _)
    ⟨w4.heap.size, 0, none⟩ 11 11 (([34, 32, 110, 111, 116, 32, 102, 111, 117, 110, 100] : List Int).map (Value.int .u8)) rfl (World.news_of_block (cs := (([34, 32, 110, 111, 116, 32, 102, 111, 117, 110, 100] : List Int).map (Value.int .u8)).toArray) (heap_alloc_new w4 _)) (ints_oneCell _ _) (by unfold maxLen; omega) (by omega) (by have := hb4.size; simp; omega)
  have hb5 : Below w.heap.size w w5 := (hb4.alloc hb4.size _).grown hg5 (by have := hb4.size; simp; omega) (fun k hk => (ho4.lt k hk).1)
  have e13 : (((r.size + n.size + 13 : Nat)) : Int) = (r.size : Int) + n.size + 13 := by omega
  rw [e13] at hr1
  refine ⟨w1, v2, w2, v3, w3, v4, w4, v5, w5, hr1, hr2, hr3, hr4, hr5, ?_, hb5⟩
  have ho : w5.ownsRow w.heap.size 5 1 v5 (nums r ++ [32, 34] ++ nums n ++ [34, 32, 110, 111, 116, 32, 102, 111, 117, 110, 100]).length ((nums r ++ [32, 34] ++ nums n ++ [34, 32, 110, 111, 116, 32, 102, 111, 117, 110, 100]).map (Value.int .u8)) := by
    simp only [List.length_append, nums_len, List.map_append]
    rw [strCells_nums, strCells_nums, List.nil_append, Nat.zero_add] at ho5
    exact ho5
  rw [own_string ho (by simp only [List.length_append, List.length_cons]; omega), msg_nums]

set_option maxRecDepth 100000 in
set_option maxHeartbeats 1000000 in
theorem msg_any (r n : ByteArray) (w : World) (h1 : r.size ≤ 1048576) (h2 : n.size ≤ 1048576) :
    Calls Yba.prog 5 #[.string r, .string n] w fun e w' => e = .returned (.string (msg r n)) ∧ Below w.heap.size w w' := by
  obtain ⟨w1, v2, w2, v3, w3, v4, w4, v5, w5, e1, e2, e3, e4, e5, e6, hb⟩ := msg_chain w r n h1 h2
  have q1 : (r.size : Int) ≤ 1048576 := by omega
  have q2 : (n.size : Int) ≤ 1048576 := by omega
  have q3 : (0 : Int) ≤ (r.size : Int) := by omega
  have q4 : (0 : Int) ≤ (n.size : Int) := by omega
  go_enter Yba.func5, Yba.ntmps5
  go_wp2
  go_ret
  exact ⟨rfl, hb⟩

set_option maxRecDepth 100000 in
set_option maxHeartbeats 1000000 in
/-- Too long: the law says true at once. -/
theorem law_big (r n : ByteArray) (w : World) (h : 1048576 < r.size ∨ 1048576 < n.size) (m1 : r.size ≤ maxLen) (m2 : n.size ≤ maxLen) :
    Calls Yba.prog 3 #[.string r, .string n] w fun e w' => e = .returned (.bool true) ∧ Below w.heap.size w w' := by
  unfold maxLen at m1 m2
  by_cases h1 : 1048576 < r.size
  · have q1 : (1048576 : Int) < (r.size : Int) := by omega
    go_enter Yba.func3, Yba.ntmps3
    go_wp2
    go_ret
    exact ⟨rfl, Below.refl _ _⟩
  · have h2 : 1048576 < n.size := by omega
    have q1 : (r.size : Int) ≤ 1048576 := by omega
    have q2 : (1048576 : Int) < (n.size : Int) := by omega
    clear h
    go_enter Yba.func3, Yba.ntmps3
    go_wp2
    go_ret
    exact ⟨rfl, Below.refl _ _⟩

set_option maxRecDepth 100000 in
set_option maxHeartbeats 1000000 in
/-- No resource. -/
theorem law_none (n : ByteArray) (w : World) (h2 : n.size ≤ 1048576) :
    Calls Yba.prog 3 #[.string ByteArray.empty, .string n] w fun e w' => e = .returned (.bool true) ∧ Below w.heap.size w w' := by
  have q2 : (n.size : Int) ≤ 1048576 := by omega
  go_enter Yba.func3, Yba.ntmps3
  go_wp2
  go_ret
  exact ⟨rfl, (Below.refl _ _).alloc (Nat.le_refl _) _⟩

set_option maxRecDepth 100000 in
set_option maxHeartbeats 1000000 in
/-- A resource. -/
theorem law_some (r n : ByteArray) (w : World) (hr : r.toList.isEmpty = false) (h1 : r.size ≤ 1048576) (h2 : n.size ≤ 1048576) :
    Calls Yba.prog 3 #[.string r, .string n] w fun e w' => e = .returned (.bool true) ∧ Below w.heap.size w w' := by
  have q1 : (r.size : Int) ≤ 1048576 := by omega
  have q2 : (n.size : Int) ≤ 1048576 := by omega
  have hnf := nf_some r n w hr h1 h2
  obtain ⟨M, hM⟩ : ∃ M, M = msg r n := ⟨_, rfl⟩
  have hmsg := fun (w : World) => msg_any r n w h1 h2
  rw [← hM] at hnf
  simp only [← hM] at hmsg
  obtain ⟨w1, hw1⟩ : ∃ w1, w1 = w.alloc (.cells #[.int .i64 404, .string ⟨#[78, 111, 116, 70, 111, 117, 110, 100]⟩, .string M, .string n] 25) := ⟨_, rfl⟩
  rw [← hw1] at hnf
  have hb1 : Below w.heap.size w w1 := by rw [hw1]; exact (Below.refl _ _).alloc (Nat.le_refl _) _
  have hs1 : w.heap.size < w1.heap.size := by rw [hw1]; simp
  have c0 : w1.cell? ⟨w.heap.size, 0, none⟩ = some (.int .i64 404) := by rw [hw1, World.cell?_alloc_new]; rfl
  have c1 : w1.cell? ⟨w.heap.size, 1, none⟩ = some (.string ⟨#[78, 111, 116, 70, 111, 117, 110, 100]⟩) := by rw [hw1, World.cell?_alloc_new]; rfl
  have c2 : w1.cell? ⟨w.heap.size, 2, none⟩ = some (.string M) := by rw [hw1, World.cell?_alloc_new]; rfl
  have c3 : w1.cell? ⟨w.heap.size, 3, none⟩ = some (.string n) := by rw [hw1, World.cell?_alloc_new]; rfl
  have HN := hide hnf
  have HM := hide hmsg
  have HW := hide hw1
  clear hnf hmsg hM hw1
  go_enter Yba.func3, Yba.ntmps3
  go_wp2_with fail
  refine (unhide HN).mono ?_
  rintro e w' ⟨rfl, rfl⟩
  go_wp2_with fail
  go_region_held3 (fun w2 => w2.cell? ⟨w.heap.size, 2, none⟩ = some (.string M) ∧ w2.cell? ⟨w.heap.size, 3, none⟩ = some (.string n))
    (first
      | exact ⟨c2, c3⟩
      | exact ⟨(hbc.cell (p := ⟨w.heap.size, 2, none⟩) hs1).trans c2, (hbc.cell (p := ⟨w.heap.size, 3, none⟩) hs1).trans c3⟩)
    ((go_at_call 5; refine (unhide HM _).mono ?_; rintro e w3 ⟨rfl, hbc⟩))
  go_wp2
  go_ret
  exact ⟨rfl, hb1.trans ((show Below w'.heap.size w' w3 from ⟨hbc.os, hbc.tape, hbc.output, hbc.size, hbc.block⟩).mono hb1.size)⟩

theorem law_any (r n : ByteArray) (w : World) (m1 : r.size ≤ maxLen) (m2 : n.size ≤ maxLen) :
    Calls Yba.prog 3 #[.string r, .string n] w fun e w' => e = .returned (.bool true) ∧ Below w.heap.size w w' := by
  by_cases h1 : r.size ≤ 1048576
  · by_cases h2 : n.size ≤ 1048576
    · by_cases hr : r.toList.isEmpty = false
      · exact law_some r n w hr h1 h2
      · have he : r = ByteArray.empty := by
          have h0 : r.toList.isEmpty = true := by simpa using hr
          rw [List.isEmpty_iff, ByteArray.toList_eq] at h0
          apply ByteArray.ext
          apply Array.ext'
          exact h0
        subst he
        exact law_none n w h2
    · exact law_big r n w (by omega) m1 m2
  · exact law_big r n w (by omega) m1 m2
end Go.Proofs.Ybulkacrpvk
