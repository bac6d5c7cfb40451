/-
  Seat b970001a: the model and lengthSize, each by its contract: the number of groups of seven bits.
-/
import Derived.Test.YbulkacrptgLen
import Derived.WalkKit
namespace Go.Proofs.Ybulkacrptg
open Go.RowKit

theorem hide {p : Prop} (h : p) : Hid p := h
theorem unhide {p : Prop} (h : Hid p) : p := h

/-- How many groups of seven bits x fills; at least one. -/
def groups (x : Nat) : Nat := if (Lib.bitLen x + 6) / 7 = 0 then 1 else (Lib.bitLen x + 6) / 7

theorem bitLen_le64 (x : Nat) : Lib.bitLen x ≤ 64 := by
  have : ∀ f x, Lib.bitLenAux f x ≤ f := by
    intro f
    induction f with
    | zero => intro x; simp [Lib.bitLenAux]
    | succ f ih => intro x; simp only [Lib.bitLenAux]; split; · omega
                   have := ih (x / 2); omega
  exact this 64 x
theorem bitLen_pos (x : Nat) (h : x ≠ 0) (hx : x < 18446744073709551616) : 1 ≤ Lib.bitLen x := by
  rw [Lib.bitLen_half x h hx]; omega
theorem bitLen_small (x : Nat) (h : x < 128) : Lib.bitLen x ≤ 7 := by
  have : ∀ n : Fin 128, Lib.bitLen n.val ≤ 7 := by decide +kernel
  exact this ⟨x, h⟩
theorem groups_small (x : Nat) (h : x < 128) : groups x = 1 := by
  have := bitLen_small x h
  unfold groups
  split <;> omega
theorem groups_step (x : Nat) (h : 128 ≤ x) (hx : x < 18446744073709551616) : groups x = 1 + groups (x / 128) := by
  have e := Lib.bitLen_shift 7 x h hx
  rw [show (2 : Nat) ^ 7 = 128 from rfl] at e
  have p := bitLen_pos (x / 128) (by omega) (by omega)
  unfold groups
  rw [e, if_neg (by omega), if_neg (by omega)]
  omega
theorem groups_le (x : Nat) : groups x ≤ 10 := by
  have := bitLen_le64 x
  unfold groups
  split <;> omega

set_option maxRecDepth 100000 in
set_option maxHeartbeats 400000 in
/-- The model: the groups of x. -/
theorem model_any (x : Nat) (w : World) (hx : x < 18446744073709551616) :
    Calls Yba.prog 5 #[.int .u64 x] w fun e w' => e = .returned (.int .i64 (groups x)) ∧ w' = w := by
  have hl := bitLen_le64 x
  have hc := len64_any (x : Int) w (by omega) (by omega)
  rw [Int.toNat_natCast] at hc
  generalize hb : Lib.bitLen x = b at *
  have HC := hide hc
  have HB := hide hb
  clear hc hb
  by_cases h0 : (b + 6) / 7 = 0
  · have h1 : (((b : Int) + 6) / 7 == 0) = true := by simp; omega
    go_enter Yba.func5, Yba.ntmps5
    go_wp2_with fail
    refine (unhide HC).mono ?_
    rintro e w' ⟨rfl, rfl⟩
    go_wp2
    go_ret
    refine ⟨?_, rfl⟩
    have : groups x = 1 := by unfold groups; rw [HB.out, if_pos h0]
    rw [this]
    rfl
  · have h1 : (((b : Int) + 6) / 7 == 0) = false := by simp; omega
    go_enter Yba.func5, Yba.ntmps5
    go_wp2_with fail
    refine (unhide HC).mono ?_
    rintro e w' ⟨rfl, rfl⟩
    go_wp2
    go_ret
    refine ⟨?_, rfl⟩
    have : (groups x : Int) = ((b : Int) + 6) / 7 := by unfold groups; rw [HB.out, if_neg h0]; omega
    rw [this]
    rfl

set_option maxRecDepth 100000 in
set_option maxHeartbeats 400000 in
/-- lengthSize: the groups of x. -/
theorem length_any (x : Nat) (w : World) (hx : x < 18446744073709551616) :
    Calls Yba.prog 4 #[.int .u64 x] w fun e w' => e = .returned (.int .i64 (groups x)) ∧ w' = w := by
  go_enter Yba.func4, Yba.ntmps4
  go_wp2
  go_loop [0, 3] (fun b s => ∃ (y k : Nat), b = .int .u64 y ∧ s = .int .i64 k ∧ y < 18446744073709551616 ∧ 1 ≤ k ∧ k + groups y = groups x + 1) (fun b _ => (intOf b).toNat)
  case atStart => exact ⟨x, 1, rfl, rfl, hx, by omega, by omega⟩
  case round =>
    obtain ⟨y, k, rfl, rfl, hy, hk, hg⟩ := hrel
    have hle := groups_le x
    by_cases hlt : 128 ≤ y
    · have hst := groups_step y hlt hy
      have HG := hide hg
      have HS := hide hst
      have hkb : (k : Int) ≤ 11 := by omega
      clear hg hst
      go_wp2
      go_round
      case rel => exact ⟨y / 128, k + 1, by go_num, by go_num, by omega, by omega, by have := HG.out; have := HS.out; omega⟩
      case measure => simp [intOf]; omega
    · have hst := groups_small y (by omega)
      have hkx : k = groups x := by omega
      have HK := hide hkx
      clear hkx hst hg
      go_wp2
      go_ret
      exact ⟨by rw [← HK.out]; rfl, rfl⟩

set_option maxRecDepth 100000 in
set_option maxHeartbeats 400000 in
/-- The law: the two are one number. -/
theorem law_any (x : Nat) (w : World) (hx : x < 18446744073709551616) :
    Calls Yba.prog 3 #[.int .u64 x] w fun e w' => e = .returned (.bool true) ∧ w' = w := by
  have h4 := length_any x w hx
  have h5 := model_any x w hx
  generalize groups x = g at h4 h5
  have H4 := hide h4
  have H5 := hide h5
  clear h4 h5
  go_enter Yba.func3, Yba.ntmps3
  go_wp2_with fail
  refine (unhide H4).mono ?_
  rintro e w1 ⟨rfl, rfl⟩
  go_wp2_with fail
  refine (unhide H5).mono ?_
  rintro e w2 ⟨rfl, rfl⟩
  go_wp2
  go_ret
  exact ⟨rfl, rfl⟩
end Go.Proofs.Ybulkacrptg
