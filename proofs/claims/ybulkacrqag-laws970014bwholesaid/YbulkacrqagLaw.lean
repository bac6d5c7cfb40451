/-
  Seat b970014a: the law at every chain: above 2^20 data it answers at once.
-/
import Derived.Test.YbulkacrqagSmall
namespace Go.Proofs.Ybulkacrqag
open Go.RowKit

set_option maxRecDepth 100000 in
set_option maxHeartbeats 1000000 in
theorem law_big (now r : Int) (a2 : Option Addr) (n c2 : Nat) (tr tb td tu tn size : Int) (w : World) (hn : 1048576 < n) :
    Calls Yba.prog 3 #[.int .i64 now, .int .i64 r, .slice a2 n c2, .int .i64 tr, .agg #[.int .i64 tb, .int .i64 td, .int .i64 tu, .int .i64 tn], .int .i64 size] w
      fun e w' => e = .returned (.bool true) ∧ Below w.heap.size w w' := by
  have q1 : (1048576 : Int) < n := by omega
  go_enter Yba.func3, Yba.ntmps3
  go_wp2_with fail
  go_ret
  exact ⟨rfl, (Below.refl _ w).alloc (Nat.le_refl _) _⟩

theorem law_any (now r : Int) (a2 : Option Addr) (n c2 : Nat) (tr tb td tu tn size : Int) (w : World) (Bf Df Uf Nf : Nat → Int) (hch : ChainAt w a2 n Bf Df Uf Nf) :
    Calls Yba.prog 3 #[.int .i64 now, .int .i64 r, .slice a2 n c2, .int .i64 tr, .agg #[.int .i64 tb, .int .i64 td, .int .i64 tu, .int .i64 tn], .int .i64 size] w
      fun e w' => e = .returned (.bool true) ∧ Below w.heap.size w w' := by
  by_cases h : n ≤ 1048576
  · exact law_small now r a2 n c2 tr tb td tu tn size w Bf Df Uf Nf hch h
  · exact law_big now r a2 n c2 tr tb td tu tn size w (by omega)
end Go.Proofs.Ybulkacrqag
