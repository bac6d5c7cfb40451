/-
  Seat b194158a: emitSource over one character, and lessThanSign, out of emitChar's contract.
-/
import Derived.Test.YbulkexpzqEmit
import Derived.Deep.RegionHeld3
namespace Go.Proofs.Ybulkexpzq
open Go.RowKit

set_option maxRecDepth 100000 in
set_option maxHeartbeats 1000000 in
/-- emitSource(from, from + 1): one call of emitChar. -/
theorem source_one (w : World) (bt : Nat) (bs n : Nat) (f : Nat) (r : Int) (R : World → Prop)
    (c0 : w.cell? ⟨bt, 0, none⟩ = some (.slice (some ⟨bs, 0, none⟩) n n)) (hf : f < n) (hn : n ≤ 2000000) (cr : w.cell? ⟨bs, f, none⟩ = some (.int .i32 r))
    (hc : Hid (Calls Yba.prog 10 #[.pointer (some ⟨bt, 0, none⟩), .int .i32 r, .int .i64 f] w fun e w' => e = .returned (.tuple #[]) ∧ R w')) :
    Calls Yba.prog 8 #[.pointer (some ⟨bt, 0, none⟩), .int .i64 f, .int .i64 ((f : Int) + 1)] w fun e w' => e = .returned (.tuple #[]) ∧ R w' := by
  have hf1 : (0 : Int) ≤ (f : Int) := by omega
  have hf2 : (f : Int) < (n : Int) := by omega
  go_enter Yba.func8, Yba.ntmps8
  go_wp2_with fail
  go_loopw [6] (fun i w' => (i = .int .i64 f ∧ w' = w) ∨ (i = .int .i64 ((f : Int) + 1) ∧ R w')) (fun i _ => ((f : Int) + 1 - intOf i).toNat)
  case atStart => exact Or.inl ⟨rfl, rfl⟩
  case round =>
    rcases hrel with ⟨rfl, rfl⟩ | ⟨rfl, hR⟩
    · go_wp2_with fail
      refine (unhide hc).mono ?_
      rintro e w1 ⟨rfl, hR⟩
      go_wp2
      go_roundw
      case rel => exact Or.inr ⟨rfl, hR⟩
      case measure => simp [intOf]
    · go_wp2
      go_end0
      exact ⟨rfl, hR⟩

set_option maxRecDepth 100000 in
set_option maxHeartbeats 1000000 in
/-- lessThanSign on '/': the state alone turns. -/
theorem less_yes (w : World) (bt : Nat) (tx ln : Value) (pos st : Int) (q tb : Value) (ts te s : Int) (hT : TokAt w bt tx ln pos st q tb ts te s) (text endt : Int) :
    Calls Yba.prog 4 #[.pointer (some ⟨bt, 0, none⟩), .int .i32 47, .int .u8 text, .int .u8 endt] w fun e w' => e = .returned (.tuple #[]) ∧ w' = w.setCell ⟨bt, 4, none⟩ (.int .u8 endt) := by
  have c4 : w.cell? ⟨bt, 4, none⟩ = some (.int .u8 st) := hT.cell 4
  have hf := hT.frozen
  go_enter Yba.func4, Yba.ntmps4
  go_wp2
  exact bodyPost_ret (results_none rfl _ _ _) rfl ⟨rfl, rfl⟩

set_option maxRecDepth 100000 in
set_option maxHeartbeats 1000000 in
/-- lessThanSign on another character: emitChar, then reconsume. -/
theorem less_no (w : World) (bt : Nat) (bs n f : Nat) (ln : Value) (pos st : Int) (q tb : Value) (ts te : Int) (hT : TokAt w bt (.slice (some ⟨bs, 0, none⟩) n n) ln pos st q tb ts te f) (c text endt r : Int) (hc : c ≠ 47)
    (hf : f < n) (hn : n ≤ 2000000) (cr : w.cell? ⟨bs, f, none⟩ = some (.int .i32 r)) (R : World → Prop)
    (hcall : Calls Yba.prog 10 #[.pointer (some ⟨bt, 0, none⟩), .int .i32 r, .int .i64 f] w.drew fun e w' => e = .returned (.tuple #[]) ∧ R w')
    (hR : ∀ w', R w' → ∃ q' tb' ts' te', TokAt w' bt (.slice (some ⟨bs, 0, none⟩) n n) ln pos st q' tb' ts' te' f) :
    Calls Yba.prog 4 #[.pointer (some ⟨bt, 0, none⟩), .int .i32 c, .int .u8 text, .int .u8 endt] w fun e w' => e = .returned (.tuple #[]) ∧ ∃ w1, R w1 ∧ w' = (w1.setCell ⟨bt, 2, none⟩ (.int .i64 (wrap64 (pos - 1)))).setCell ⟨bt, 4, none⟩ (.int .u8 text) := by
  have c0 : w.cell? ⟨bt, 0, none⟩ = some (.slice (some ⟨bs, 0, none⟩) n n) := hT.cell 0
  have c15 : w.cell? ⟨bt, 15, none⟩ = some (.int .i64 f) := hT.cell 15
  have hc1 : (c == 47) = false := by simpa using hc
  have hf1 : (0 : Int) ≤ (f : Int) := by omega
  have hf2 : (f : Int) < 2000000 := by omega
  have hw : IntKind.i64.wrap ((f : Int) + 1) = (f : Int) + 1 := by rw [IntKind.wrap_i64]; omega
  have hsrc := source_one w.drew bt bs n f r R c0 hf hn cr hcall
  have HS := hide hsrc
  have HR := hide hR
  clear hcall hsrc hR
  go_enter Yba.func4, Yba.ntmps4
  go_wp2_with fail
  go_region_held3 (fun w' => w'.cell? ⟨bt, 15, none⟩ = some (.int .i64 f))
    (first
      | exact c15
      | (obtain ⟨q1, tb1, ts1, te1, hT1⟩ := unhide HR _ hRw; exact hT1.cell 15))
    ((go_at_call 8; refine (unhide HS).mono ?_; rintro e w1 ⟨rfl, hRw⟩))
  obtain ⟨q1, tb1, ts1, te1, hT1⟩ := unhide HR _ hRw
  have hrc := recon_any bt pos (.int .u8 st) text w1 (hT1.cell 2) (hT1.cell 4) hT1.frozen
  have HC := hide hrc
  clear hrc c0 c15 cr
  go_wp2_with fail
  refine (unhide HC).mono ?_
  rintro e w2 ⟨rfl, rfl⟩
  go_wp2
  go_end0
  exact ⟨rfl, w1, hRw, rfl⟩
end Go.Proofs.Ybulkexpzq
