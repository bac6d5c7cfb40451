/-
  Seat b970014a: onward, by its contract, in its three ways: at the router; up the chain; down the chain.
-/
import Derived.Test.YbulkacrqagLeaf
namespace Go.Proofs.Ybulkacrqag
open Go.RowKit
set_option maxRecDepth 100000 in
set_option maxHeartbeats 1000000 in
theorem onward_eq (pn : Option Addr) (bt a : Nat) (now size rt dl u : Int) (w : World) (c0 : w.cell? ⟨bt, 0, none⟩ = some (.int .i64 rt)) (c1 : w.cell? ⟨bt, 1, none⟩ = some (.int .i64 dl)) (c2 : w.cell? ⟨bt, 2, none⟩ = some (.int .i64 (1 + (a : Int)))) (c4 : w.cell? ⟨bt, 4, none⟩ = some (.int .i64 u))
    (hf : ∀ o, w.frozen? ⟨bt, o, none⟩ = false) (hr : rt ≠ 0) :
    Calls Yba.prog 7 #[.pointer pn, .int .i64 now, .int .i64 (1 + (a : Int)), .pointer (some ⟨bt, 0, none⟩), .int .i64 size] w fun e w' =>
      e = .returned (.tuple #[.int .i64 (wrap64 (adv now u size rt + dl)), .int .i64 0]) ∧ w' = (w.setCell ⟨bt, 4, none⟩ (.int .i64 (adv now u size rt))).drew.drew := by
  have hc := carry_any bt 0 1 (Or.inr rfl) now size rt dl u w c0 c1 c4 hf hr
  have HC := hide hc
  clear hc
  go_enter Yba.func7, Yba.ntmps7
  go_wp2_with fail
  refine (unhide HC).mono ?_
  rintro e w1 ⟨rfl, rfl⟩
  go_wp2
  go_ret2
  exact ⟨rfl, rfl⟩
set_option maxRecDepth 100000 in
set_option maxHeartbeats 1000000 in
theorem onward_up (bn bt bl L a t : Nat) (now size rt dl u : Int) (w : World) (t2 : w.cell? ⟨bt, 2, none⟩ = some (.int .i64 (1 + (t : Int)))) (hat : a < t) (hL : a < L) (hL2 : L ≤ 1048576) (cn : w.cell? ⟨bn, 2, none⟩ = some (.slice (some ⟨bl, 0, none⟩) L L))
    (c0 : w.cell? ⟨bl, a * 5, none⟩ = some (.int .i64 rt)) (c1 : w.cell? ⟨bl, a * 5 + 1, none⟩ = some (.int .i64 dl)) (c3 : w.cell? ⟨bl, a * 5 + 3, none⟩ = some (.int .i64 u)) (hf : ∀ o, w.frozen? ⟨bl, o, none⟩ = false) (hr : rt ≠ 0) :
    Calls Yba.prog 7 #[.pointer (some ⟨bn, 0, none⟩), .int .i64 now, .int .i64 (1 + (a : Int)), .pointer (some ⟨bt, 0, none⟩), .int .i64 size] w fun e w' =>
      e = .returned (.tuple #[.int .i64 (wrap64 (adv now u size rt + dl)), .int .i64 (1 + (a : Int) + 1)]) ∧ w' = (w.setCell ⟨bl, a * 5 + 3, none⟩ (.int .i64 (adv now u size rt))).drew.drew := by
  have hc := carry_any bl (a * 5) 0 (Or.inl rfl) now size rt dl u w c0 c1 c3 hf hr
  have HC := hide hc
  have h1 : ((1 + (a : Int)) == (1 + (t : Int))) = false := by simp; omega
  have h2 : (1 + (a : Int)) < (1 + (t : Int)) := by omega
  have h3 : (0 : Int) ≤ (a : Int) := by omega
  have h4 : (a : Int) < (L : Int) := by omega
  have h5 : (L : Int) ≤ 1048576 := by omega
  clear hc
  go_enter Yba.func7, Yba.ntmps7
  go_wp2_with fail
  refine (unhide HC).mono ?_
  rintro e w1 ⟨rfl, rfl⟩
  go_wp2
  go_ret2
  exact ⟨rfl, rfl⟩
set_option maxRecDepth 100000 in
set_option maxHeartbeats 1000000 in
theorem onward_down (bn bt bl L a t : Nat) (now size rt dl u : Int) (w : World) (t2 : w.cell? ⟨bt, 2, none⟩ = some (.int .i64 (1 + (t : Int)))) (hat : t < a + 1) (hL : a < L) (hL2 : L ≤ 1048576) (cn : w.cell? ⟨bn, 2, none⟩ = some (.slice (some ⟨bl, 0, none⟩) L L))
    (c0 : w.cell? ⟨bl, a * 5, none⟩ = some (.int .i64 rt)) (c1 : w.cell? ⟨bl, a * 5 + 1, none⟩ = some (.int .i64 dl)) (c4 : w.cell? ⟨bl, a * 5 + 4, none⟩ = some (.int .i64 u)) (hf : ∀ o, w.frozen? ⟨bl, o, none⟩ = false) (hr : rt ≠ 0) :
    Calls Yba.prog 7 #[.pointer (some ⟨bn, 0, none⟩), .int .i64 now, .int .i64 (1 + ((a : Int) + 1)), .pointer (some ⟨bt, 0, none⟩), .int .i64 size] w fun e w' =>
      e = .returned (.tuple #[.int .i64 (wrap64 (adv now u size rt + dl)), .int .i64 (1 + ((a : Int) + 1) - 1)]) ∧ w' = (w.setCell ⟨bl, a * 5 + 4, none⟩ (.int .i64 (adv now u size rt))).drew.drew := by
  have hc := carry_any bl (a * 5) 1 (Or.inr rfl) now size rt dl u w c0 c1 c4 hf hr
  have HC := hide hc
  have h1 : ((1 + ((a : Int) + 1)) == (1 + (t : Int))) = false := by simp; omega
  have h2 : ¬ (1 + ((a : Int) + 1)) < (1 + (t : Int)) := by omega
  have h3 : (0 : Int) ≤ (a : Int) := by omega
  have h4 : (a : Int) < (L : Int) := by omega
  have h5 : (L : Int) ≤ 1048576 := by omega
  clear hc
  go_enter Yba.func7, Yba.ntmps7
  go_wp2_with fail
  rw [show (1 + (a + 1) - 2) * 5 = a * 5 by omega]
  refine (unhide HC).mono ?_
  rintro e w1 ⟨rfl, rfl⟩
  go_wp2
  go_ret2
  exact ⟨rfl, rfl⟩
end Go.Proofs.Ybulkacrqag
