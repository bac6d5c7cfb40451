/-
  Seat b970014a: the leaves of the road: rate, arrive, carry, mk, same.
-/
import Derived.Test.YbulkacrqagRows
import Derived.WalkKit
import Derived.WalkSpells
import Derived.WalkLawsBesides
import Derived.Deep.RegionHeld3
namespace Go.Proofs.Ybulkacrqag
open Go.RowKit
def rate (b : Int) : Int := if b = 0 then 1 else b
set_option maxHeartbeats 400000 in
theorem rate_any (b : Int) (w : World) : Calls Yba.prog 6 #[.int .i64 b] w fun e w' => e = .returned (.int .i64 (rate b)) ∧ w' = w := by
  unfold rate
  by_cases h : b = 0
  · subst h
    go_enter Yba.func6, Yba.ntmps6
    go_wp2
    go_ret
    exact ⟨rfl, rfl⟩
  · have h1 : (b == 0) = false := by simpa using h
    rw [if_neg h]
    go_enter Yba.func6, Yba.ntmps6
    go_wp2
    go_ret
    exact ⟨rfl, rfl⟩
/-- When the direction is free again: behind the later of now and its own time, the sending of size bits at rate rt. -/
def adv (now fr size rt : Int) : Int := wrap64 ((if fr < now then now else fr) + wrap64 ((wrap64 (size * 1000000000)).tdiv rt))
theorem adv_now {now fr size rt : Int} (h : fr < now) : adv now fr size rt = wrap64 (now + wrap64 ((wrap64 (size * 1000000000)).tdiv rt)) := by unfold adv; rw [if_pos h]
theorem adv_fr {now fr size rt : Int} (h : ¬ fr < now) : adv now fr size rt = wrap64 (fr + wrap64 ((wrap64 (size * 1000000000)).tdiv rt)) := by unfold adv; rw [if_neg h]
theorem hide {p : Prop} (h : p) : Hid p := h
theorem unhide {p : Prop} (h : Hid p) : p := h

set_option maxHeartbeats 1000000 in
/-- arrive: the one cell of the direction turns. -/
theorem arrive_any (bf off dir : Nat) (hd : dir = 0 ∨ dir = 1) (now size rt dl u : Int) (w : World) (c0 : w.cell? ⟨bf, off + dir, none⟩ = some (.int .i64 u)) (hf : ∀ o, w.frozen? ⟨bf, o, none⟩ = false) (hr : rt ≠ 0) :
    Calls Yba.prog 5 #[.pointer (some ⟨bf, off, none⟩), .int .i64 dir, .int .i64 now, .int .i64 size, .int .i64 rt, .int .i64 dl] w fun e w' =>
      e = .returned (.int .i64 (wrap64 (adv now u size rt + dl))) ∧ w' = (w.setCell ⟨bf, off + dir, none⟩ (.int .i64 (adv now u size rt))).drew := by
  rcases hd with rfl | rfl
  all_goals
    try simp only [Nat.add_zero] at c0
    by_cases h : u < now
    · have HA := hide (adv_now (size := size) (rt := rt) h)
      go_enter Yba.func5, Yba.ntmps5
      go_wp2_with fail
      go_region
      go_wp2
      go_ret
      rw [HA.out]
      exact ⟨rfl, rfl⟩
    · have HA := hide (adv_fr (size := size) (rt := rt) h)
      go_enter Yba.func5, Yba.ntmps5
      go_wp2_with fail
      go_region
      go_wp2
      go_ret
      rw [HA.out]
      exact ⟨rfl, rfl⟩

set_option maxHeartbeats 1000000 in
/-- carry: the one cell of the direction turns. -/
theorem carry_any (b off dir : Nat) (hd : dir = 0 ∨ dir = 1) (now size rt dl u : Int) (w : World) (c0 : w.cell? ⟨b, off, none⟩ = some (.int .i64 rt)) (c1 : w.cell? ⟨b, off + 1, none⟩ = some (.int .i64 dl)) (c3 : w.cell? ⟨b, off + 3 + dir, none⟩ = some (.int .i64 u))
    (hf : ∀ o, w.frozen? ⟨b, o, none⟩ = false) (hr : rt ≠ 0) :
    Calls Yba.prog 9 #[.pointer (some ⟨b, off, none⟩), .int .i64 now, .int .i64 dir, .int .i64 size] w fun e w' =>
      e = .returned (.int .i64 (wrap64 (adv now u size rt + dl))) ∧ w' = (w.setCell ⟨b, off + 3 + dir, none⟩ (.int .i64 (adv now u size rt))).drew.drew := by
  rcases hd with rfl | rfl
  all_goals
    try simp only [Nat.add_zero] at c3
    rcases Int.lt_trichotomy u now with h | h | h
    · have HA := hide (adv_now (size := size) (rt := rt) h)
      go_enter Yba.func9, Yba.ntmps9
      go_wp2_with fail
      go_region
      go_wp2_with fail
      go_region
      go_wp2
      go_ret
      rw [HA.out]
      exact ⟨rfl, rfl⟩
    · subst h
      have HA := hide (adv_fr (now := u) (fr := u) (size := size) (rt := rt) (by omega))
      go_enter Yba.func9, Yba.ntmps9
      go_wp2_with fail
      go_region
      go_wp2_with fail
      go_region
      go_wp2
      go_ret
      rw [HA.out]
      exact ⟨rfl, rfl⟩
    · have HA := hide (adv_fr (now := now) (fr := u) (size := size) (rt := rt) (by omega))
      go_enter Yba.func9, Yba.ntmps9
      go_wp2_with fail
      go_region
      go_wp2_with fail
      go_region
      go_wp2
      go_ret
      rw [HA.out]
      exact ⟨rfl, rfl⟩

/-- A link as it is made of a datum. -/
def linkC (rt d ro u n : Int) : List Value := [.int .i64 rt, .int .i64 d, .int .i64 ro, .int .i64 u, .int .i64 n]

set_option maxRecDepth 100000 in
set_option maxHeartbeats 2000000 in
/-- mk: the link, in new memory. -/
theorem mk_any (b d u n ro : Int) (w : World) :
    Calls Yba.prog 4 #[.agg #[.int .i64 b, .int .i64 d, .int .i64 u, .int .i64 n], .int .i64 ro] w fun e w' => e = .returned (.agg #[.int .i64 (rate b), .int .i64 d, .int .i64 ro, .int .i64 u, .int .i64 n]) ∧ Below w.heap.size w w' := by
  have hra := fun (w : World) => rate_any b w
  have HR := hide hra
  clear hra
  go_enter Yba.func4, Yba.ntmps4
  go_wp2_with fail
  go_region_held3 (fun w' => w'.cell? ⟨w.heap.size, 0, none⟩ = some (.int .i64 b) ∧ w'.cell? ⟨w.heap.size, 1, none⟩ = some (.int .i64 d) ∧ w'.cell? ⟨w.heap.size, 2, none⟩ = some (.int .i64 u) ∧ w'.cell? ⟨w.heap.size, 3, none⟩ = some (.int .i64 n))
    (first
      | (simp [World.cell?_alloc_past]; done)
      | (simp [World.cell?_alloc_past, World.cell?_setCell_other]; done))
    ((go_at_call 6; refine (unhide HR _).mono ?_; rintro e w1 ⟨rfl, rfl⟩))
  go_wp2
  exact bodyPost_ret (v := .agg #[.int .i64 (rate b), .int .i64 d, .int .i64 ro, .int .i64 u, .int .i64 n]) (by simp [results, Yba.results4, go_sem]) rfl ⟨rfl, (((Below.refl _ _).alloc (Nat.le_refl _) _).alloc (by simp) _).drew⟩

theorem cell3_0 (w : World) (a b c : Array Value) (ta tb tc : TypeId) (i : Nat) : (((w.alloc (.cells a ta)).alloc (.cells b tb)).alloc (.cells c tc)).cell? ⟨w.heap.size, i, none⟩ = a[i]? := by
  rw [World.cell?_alloc_past _ _ _ (by simp; omega), World.cell?_alloc_past _ _ _ (by simp), World.cell?_alloc_at _ _ _ _ rfl]
theorem cell3_1 (w : World) (a b c : Array Value) (ta tb tc : TypeId) (i : Nat) : (((w.alloc (.cells a ta)).alloc (.cells b tb)).alloc (.cells c tc)).cell? ⟨w.heap.size + 1, i, none⟩ = b[i]? := by
  rw [World.cell?_alloc_past _ _ _ (by simp), World.cell?_alloc_at _ _ _ _ (by simp)]
theorem cell3_2 (w : World) (a b c : Array Value) (ta tb tc : TypeId) (i : Nat) : (((w.alloc (.cells a ta)).alloc (.cells b tb)).alloc (.cells c tc)).cell? ⟨w.heap.size + 2, i, none⟩ = c[i]? := by
  rw [World.cell?_alloc_at _ _ _ _ (by simp)]

set_option maxRecDepth 100000 in
set_option maxHeartbeats 2000000 in
/-- same: a link that is as the datum says: true. -/
theorem same_any (b d ro u n u0 n0 : Int) (w : World) :
    Calls Yba.prog 8 #[.agg #[.int .i64 (rate b), .int .i64 d, .int .i64 ro, .int .i64 u, .int .i64 n], .agg #[.int .i64 b, .int .i64 d, .int .i64 u0, .int .i64 n0], .int .i64 ro, .agg #[.int .i64 u, .int .i64 n]] w fun e w' => e = .returned (.bool true) ∧ Below w.heap.size w w' := by
  have hra := fun (w : World) => rate_any b w
  have HR := hide hra
  clear hra
  generalize rate b = rb at *
  have f0 := fun (i : Nat) => cell3_0 w #[.int .i64 rb, .int .i64 d, .int .i64 ro, .int .i64 u, .int .i64 n] #[.int .i64 b, .int .i64 d, .int .i64 u0, .int .i64 n0] #[.int .i64 u, .int .i64 n] 36 24 34 i
  have f1 := fun (i : Nat) => cell3_1 w #[.int .i64 rb, .int .i64 d, .int .i64 ro, .int .i64 u, .int .i64 n] #[.int .i64 b, .int .i64 d, .int .i64 u0, .int .i64 n0] #[.int .i64 u, .int .i64 n] 36 24 34 i
  have f2 := fun (i : Nat) => cell3_2 w #[.int .i64 rb, .int .i64 d, .int .i64 ro, .int .i64 u, .int .i64 n] #[.int .i64 b, .int .i64 d, .int .i64 u0, .int .i64 n0] #[.int .i64 u, .int .i64 n] 36 24 34 i
  have F0 := hide f0
  have F1 := hide f1
  have F2 := hide f2
  clear f0 f1 f2
  go_enter Yba.func8, Yba.ntmps8
  go_wp2_with fail
  go_region_held3 (fun w' => w'.cell? ⟨w.heap.size, 0, none⟩ = some (.int .i64 rb) ∧ w'.cell? ⟨w.heap.size, 1, none⟩ = some (.int .i64 d) ∧ w'.cell? ⟨w.heap.size, 2, none⟩ = some (.int .i64 ro) ∧ w'.cell? ⟨w.heap.size, 3, none⟩ = some (.int .i64 u) ∧ w'.cell? ⟨w.heap.size, 4, none⟩ = some (.int .i64 n) ∧
      w'.cell? ⟨w.heap.size + 1, 0, none⟩ = some (.int .i64 b) ∧ w'.cell? ⟨w.heap.size + 1, 1, none⟩ = some (.int .i64 d) ∧ w'.cell? ⟨w.heap.size + 2, 0, none⟩ = some (.int .i64 u) ∧ w'.cell? ⟨w.heap.size + 2, 1, none⟩ = some (.int .i64 n))
    (exact ⟨unhide F0 0, unhide F0 1, unhide F0 2, unhide F0 3, unhide F0 4, unhide F1 0, unhide F1 1, unhide F2 0, unhide F2 1⟩)
    ((go_at_call 6; refine (unhide HR _).mono ?_; rintro e w1 ⟨rfl, rfl⟩))
  go_wp2
  go_ret
  exact ⟨rfl, ((((Below.refl _ _).alloc (Nat.le_refl _) _).alloc (by simp) _).alloc (by simp; omega) _).drew⟩
end Go.Proofs.Ybulkacrqag
