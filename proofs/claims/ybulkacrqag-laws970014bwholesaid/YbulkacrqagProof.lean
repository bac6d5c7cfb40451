/-
  Seat b970014a: THE STATEMENT 'Rows.LawS970014BWholeSaid': the row's step round the walked law (a slice of structs, a struct by value; the end by 'Below').
-/
import Derived.Test.YbulkacrqagLaw
import Derived.ProofKit
import Derived.OpenShut
import Derived.ShutString
import Derived.ChangeOld
import Derived.Deep.Slices
import Derived.Lib.SmallJoins
namespace Go.Proofs.Ybulkacrqag
open Go.ChangeShapes Go.WideShapes Go.ChangeAt Go.RowKit
open Go.Deep (open_slice choose_lt add_add)
open Go.Joins (open_agg4 trod_struct4)

theorem own : ownKnob Yba.prog.godebug = none := by kernel_rfl
theorem laidOut : laidOutB Yba.prog = true := by kernel_rfl
theorem cells24 : Yba.prog.cellsOf 24 = 4 := by kernel_rfl
theorem cells2 : Yba.prog.cellsOf 2 = 1 := by kernel_rfl

theorem cell_lt {w : World} {a : Addr} {v : Value} (h : w.cell? a = some v) : a.block < w.heap.size := by
  unfold World.cell? at h
  by_cases hl : a.block < w.heap.size
  · exact hl
  · rw [Array.getElem?_eq_none (by omega)] at h
    simp at h

/-- A chain that is read: its data, four numbers each. -/
theorem chain_open {H : Type} {enc : TypeId × Value → H} {W : World} {base : Nat} {spare : Nat → Bool} {held : Bool} {fuel : Nat} {ao : Option Addr} {n c : Nat} {x : DataW H × List MemPlace}
    (hf : DataW.trod enc Yba.prog W base spare held fuel 22 [.slice ao n c] = some x) : ∃ Bf Df Uf Nf, ChainAt W ao n Bf Df Uf Nf := by
  rcases open_slice Yba.underlying22 hf with ⟨hcs, _⟩ | ⟨a, len, cap, m, k, D, Pl, hcs, _, hl, _, hm, _, hx⟩
  · simp at hcs
    obtain ⟨rfl, rfl, rfl⟩ := hcs
    exact ⟨fun _ => 0, fun _ => 0, fun _ => 0, fun _ => 0, fun i hi => absurd hi (Nat.not_lt_zero i)⟩
  · simp at hcs
    obtain ⟨rfl, rfl, rfl⟩ := hcs
    have hlm : n ≤ m := by rw [hm]; split <;> omega
    have each : ∀ i, i < n → ∃ q : Int × Int × Int × Int, ∃ b off, a = ⟨b, off, none⟩ ∧ b < W.heap.size ∧ W.rangeAt b (off + i * 4) (datC q.1 q.2.1 q.2.2.1 q.2.2.2) := by
      intro i hi
      obtain ⟨cs', h1, h2⟩ := hx i (by omega)
      rw [cells24] at h1
      obtain ⟨_, hlen, hcell⟩ := World.cells?_some h1
      obtain ⟨y0, y1, y2, y3, k', _, _, g0, g1, g2, g3⟩ := trod_struct4 Yba.underlying24 h2
      match cs', hlen with
      | [c0, c1, c2, c3], _ =>
        simp only [cells2] at g0 g1 g2 g3
        obtain ⟨z0, e0, _⟩ := DataW.trod_int Yba.underlying2 g0
        obtain ⟨z1, e1, _⟩ := DataW.trod_int Yba.underlying2 g1
        obtain ⟨z2, e2, _⟩ := DataW.trod_int Yba.underlying2 g2
        obtain ⟨z3, e3, _⟩ := DataW.trod_int Yba.underlying2 g3
        simp at e0 e1 e2 e3
        subst e0 e1 e2 e3
        have f0 := hcell 0 (by omega)
        rw [add_add] at f0
        obtain ⟨b, off, spot⟩ := a
        have hspot : spot = none := by
          obtain ⟨cs0, j1, j2⟩ := hx 0 (by omega)
          rw [cells24] at j1
          obtain ⟨_, jlen, jcell⟩ := World.cells?_some j1
          have := jcell 0 (by omega)
          rw [List.getElem?_eq_getElem (by omega)] at this
          simpa [Addr.add] using World.cell?_spot this
        subst hspot
        rw [Addr.add_lit] at f0
        refine ⟨(z0, z1, z2, z3), b, off, rfl, cell_lt f0, ?_⟩
        · intro t v hv
          have ht : t < 4 := by have := (List.getElem?_eq_some_iff.1 hv).1; simpa [datC] using this
          have f := hcell t ht
          rw [add_add, Addr.add_lit] at f
          rw [Nat.add_assoc, f]
          exact hv
    obtain ⟨q, hq⟩ := choose_lt each
    exact ⟨fun i => (q i).1, fun i => (q i).2.1, fun i => (q i).2.2.1, fun i => (q i).2.2.2, fun i hi => by
      obtain ⟨b, off, ha, hb, hr⟩ := hq i hi
      exact ⟨b, off, by rw [ha], hb, hr⟩⟩

set_option maxRecDepth 100000 in
theorem lifted (os : Os) (started : os.Started) (H : Type) (enc : TypeId × Value → H) :
    ReturnsInHanded {} Yba.checked os 3 .any (Rows.lawS970014BWholeSpec.pre6 enc Yba.prog Yba.f3 Rows.lawS970014BWholeRow.domain false) (Rows.lawS970014BWholeSpec.post enc Yba.prog Yba.f3 false true false false) := by
  refine returnsInHanded_of_change (C := Yba.checked) own started (by kernel_rfl) Yba.func3
    (ChangeSpec.witness6 (enc := enc) (C := Yba.checked) false ⟨#[], #[.int .i64 0, .int .i64 0, .slice none 0 0, .int .i64 0, .agg #[.int .i64 0, .int .i64 0, .int .i64 0, .int .i64 0], .int .i64 0], []⟩ 8 (by kernel_rfl) (by kernel_rfl) (by kernel_rfl) (by kernel_rfl)) ?_
  intro W base args ds gs before hval0 hW hcnd _
  have hval : ∀ (j : Nat) t v, Yba.f3.params[j]? = some t → args[j]? = some v → Value.okWide Yba.prog W .any base t v := hval0
  have hW' := hW
  obtain ⟨p, q, hA0, hV, rfl, hfz, hnd⟩ := hW
  have hA : DataW.TrodAll enc Yba.prog W 0 (fun _ => true) true Yba.f3.params.toList args.toList ds p := hA0
  rw [Yba.params3] at hA hval
  obtain ⟨v0, vs0, d0, ds0, p0, q0, hargs, rfl, rfl, h0, r0⟩ := trodAll_cons hA
  obtain ⟨v1, vs1, d1, ds1, p1, q1, rfl, rfl, rfl, h1, r1⟩ := trodAll_cons r0
  obtain ⟨v2, vs2, d2, ds2, p2, q2, rfl, rfl, rfl, h2, r2⟩ := trodAll_cons r1
  obtain ⟨v3, vs3, d3, ds3, p3, q3, rfl, rfl, rfl, h3, r3⟩ := trodAll_cons r2
  obtain ⟨v4, vs4, d4, ds4, p4, q4, rfl, rfl, rfl, h4, r4⟩ := trodAll_cons r3
  obtain ⟨v5, vs5, d5, ds5, p5, q5, rfl, rfl, rfl, h5, r5⟩ := trodAll_cons r4
  obtain ⟨rfl, rfl, rfl⟩ := trodAll_nil r5
  obtain rfl : args = #[v0, v1, v2, v3, v4, v5] := by cases args; simp_all
  obtain ⟨rfl, rfl⟩ := trodVars_none hV
  obtain ⟨a0, rfl, rfl, rfl, w0⟩ := open_int Yba.underlying2 (hval 0 2 v0 rfl rfl) h0
  obtain ⟨a1, rfl, rfl, rfl, w1⟩ := open_int Yba.underlying3 (hval 1 3 v1 rfl rfl) h1
  obtain ⟨a2, n2, c2, rfl⟩ := okWide_slice Yba.underlying22 (hval 2 22 v2 rfl rfl)
  have k2 := h2
  have lt2 : ∀ x ∈ p2, x.block < W.heap.size := by obtain ⟨m, hm⟩ := k2; exact DataW.trod_lt m _ _ _ hm
  obtain ⟨Bf, Df, Uf, Nf, hch⟩ : ∃ Bf Df Uf Nf, ChainAt W a2 n2 Bf Df Uf Nf := by
    obtain ⟨fuel, hf⟩ := h2
    exact chain_open hf
  obtain ⟨a3, rfl, rfl, rfl, w3⟩ := open_int Yba.underlying3 (hval 3 3 v3 rfl rfl) h3
  have k4 := h4
  have lt4 : ∀ x ∈ p4, x.block < W.heap.size := by obtain ⟨m, hm⟩ := k4; exact DataW.trod_lt m _ _ _ hm
  obtain ⟨s0, s1, s2, s3, y0, y1, y2, y3, m4, rfl, _, _, g0, g1, g2, g3⟩ := open_agg4 Yba.underlying24 (by kernel_rfl) cells24 (hval 4 24 v4 rfl rfl) h4
  obtain ⟨z0, e0, _⟩ := DataW.trod_int Yba.underlying2 g0
  obtain ⟨z1, e1, _⟩ := DataW.trod_int Yba.underlying2 g1
  obtain ⟨z2, e2, _⟩ := DataW.trod_int Yba.underlying2 g2
  obtain ⟨z3, e3, _⟩ := DataW.trod_int Yba.underlying2 g3
  simp only [List.cons.injEq, and_true] at e0 e1 e2 e3
  subst e0 e1 e2 e3
  obtain ⟨a5, rfl, rfl, rfl, w5⟩ := open_int Yba.underlying2 (hval 5 2 v5 rfl rfl) h5
  clear hA0 hval0
  refine (law_any a0 a1 a2 n2 c2 a3 z0 z1 z2 z3 a5 W Bf Df Uf Nf hch).mono fun e W' ⟨he, bel⟩ => ?_
  subst he
  exact ⟨_, rfl, _, _, _, [], _, [], hW', trodAll_mk1 (shut_bool Yba.underlying4 _),
    (trodAll_cons_mk (shut_int Yba.underlying2 w0) (trodAll_cons_mk (shut_int Yba.underlying3 w1) (trodAll_cons_mk (Below.trod laidOut (by kernel_rfl) (of_decide_eq_true (by kernel_rfl)) k2 bel lt2) (trodAll_cons_mk (shut_int Yba.underlying3 w3)
      (trodAll_cons_mk (Below.trod laidOut (by kernel_rfl) (of_decide_eq_true (by kernel_rfl)) k4 bel lt4) (trodAll_cons_mk (shut_int Yba.underlying2 w5) trodAll_mk0)))))), rfl, bel.frame _, fun h => by cases h⟩

theorem over : Rows.lawS970014BWholeRow.holds Yba.pinned (OpenSpec.ofChange Rows.lawS970014BWholeSpec) :=
  OpenClaim.holds_of_wide 3 Yba.f3 rfl rfl rfl rfl rfl rfl rfl ⟨rfl, rfl, rfl, rfl, rfl⟩ rfl rfl rfl rfl rfl (by kernel_rfl) Yba.func3 (by kernel_rfl)
    (of_decide_eq_true (by kernel_rfl)) (by unfold Func.isWrapper; first | (rw [if_pos (by decide +kernel)]; kernel_rfl) | (rw [if_neg (by decide +kernel)]; exact ⟨rfl, rfl⟩))
    (fun os started H enc _ => lifted os started H enc)

/-- THE STATEMENT -/
theorem lawS970014BWhole_proved : Rows.LawS970014BWholeSaid := over
#print axioms lawS970014BWhole_proved
end Go.Proofs.Ybulkacrqag
