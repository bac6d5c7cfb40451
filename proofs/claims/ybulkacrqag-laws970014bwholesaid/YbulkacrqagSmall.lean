/-
  Seat b970014a: the law at a chain of at most 2^20 data: the two lists built, the law's own reckoning in three ways, onward, and every link compared.
-/
import Derived.Test.YbulkacrqagMid
import Derived.Deep.CutRange
namespace Go.Proofs.Ybulkacrqag
open Go.RowKit
attribute [local go_sem ↓] ldS24_eq ldS34_eq ldS36_eq stS24_eq stS34_eq stS36_eq makeS_eq
theorem st_start (w wr w3 : World) (bn bl be n t : Nat) (tb td tu tn : Int) (Bf Df Uf Nf : Nat → Int) (hbl : bl = w.heap.size + 1) (hbn : bn = w.heap.size + 2) (hbe : be = w.heap.size + 3) (hbr : Below w.heap.size w wr) (hbig : w.heap.size + 4 ≤ wr.heap.size) (hbc : Below wr.heap.size wr w3)
    (hB : wr.heap[w.heap.size]? = some (.cells (datC tb td tu tn).toArray 24 (0, 0))) (hN : wr.heap[bn]? = some (.cells ([.slice none 0 0, .slice none 0 0, .slice (some ⟨bl, 0, none⟩) n n] : List Value).toArray 29 (0, 0)))
    (hL : wr.heap[bl]? = some (.cells (rows (fun i => linkC (rate (Bf i)) (Df i) 0 (Uf i) (Nf i)) n).toArray 36 (0, 0))) (hE : wr.heap[be]? = some (.cells (rows (fun i => freeC (Uf i) (Nf i)) n).toArray 34 (0, 0))) :
    St w.heap.size w ((w3.alloc (.cells #[.int .i64 (rate tb), .int .i64 td, .int .i64 (1 + (t : Int)), .int .i64 tu, .int .i64 tn] 36)).alloc (.cells #[.int .i64 tu, .int .i64 tn] 34)) w.heap.size bn bl be w3.heap.size (w3.heap.size + 1) n t tb td tu tn Bf Df Uf Nf Uf Nf tu tn tu tn := by
  have hs := hbc.size
  have old : ∀ j, j < w3.heap.size → ∀ (o1 o2 : Obj), ((w3.alloc o1).alloc o2).heap[j]? = w3.heap[j]? := fun j hj o1 o2 =>
    (Below.heap_alloc _ _ _ (by simp; omega)).trans (Below.heap_alloc _ _ _ hj)
  refine ⟨?_, ?_, ?_, ?_, ?_, ?_, ?_, ?_, ?_⟩
  · rw [old _ (by omega)]; exact (hbc.block _ (by omega)).trans hB
  · rw [old _ (by omega)]; exact (hbc.block _ (by omega)).trans hN
  · rw [old _ (by omega)]; exact (hbc.block _ (by omega)).trans hL
  · rw [old _ (by omega)]; exact (hbc.block _ (by omega)).trans hE
  · exact (Below.heap_alloc _ _ _ (by simp)).trans (heap_alloc_new w3 _)
  · have e := heap_alloc_new (w3.alloc (.cells #[.int .i64 (rate tb), .int .i64 td, .int .i64 (1 + (t : Int)), .int .i64 tu, .int .i64 tn] 36)) (.cells #[.int .i64 tu, .int .i64 tn] 34)
    rw [World.size_alloc] at e
    exact e
  · exact ((hbr.trans (hbc.mono hbr.size)).alloc (by have := hbr.size; omega) _).alloc (by have := hbr.size; simp; omega) _
  · unfold Six; omega
  · simp; omega

theorem St.loads {B : Nat} {w0 w : World} {b10 bn bl be bt bf n t : Nat} {tb td tu tn : Int} {Bf Df Uf Nf U N : Nat → Int} {x y : Int} (h : St B w0 w b10 bn bl be bt bf n t tb td tu tn Bf Df U N U N x y x y) {j : Nat} (hj : j < n) {b off : Nat} (hrg : w.rangeAt b (off + j * 4) (datC (Bf j) (Df j) (Uf j) (Nf j))) :
    w.cell? ⟨bn, 2, none⟩ = some (.slice (some ⟨bl, 0, none⟩) n n) ∧ (ldS (.pointer (some ⟨bl, j * 5, none⟩)) 36).run Yba.prog w = .ok (.agg #[.int .i64 (rate (Bf j)), .int .i64 (Df j), .int .i64 0, .int .i64 (U j), .int .i64 (N j)]) w ∧
      (ldS (.pointer (some ⟨b, off + j * 4, none⟩)) 24).run Yba.prog w = .ok (.agg #[.int .i64 (Bf j), .int .i64 (Df j), .int .i64 (Uf j), .int .i64 (Nf j)]) w ∧ (ldS (.pointer (some ⟨be, j * 2, none⟩)) 34).run Yba.prog w = .ok (.agg #[.int .i64 (U j), .int .i64 (N j)]) w :=
  ⟨block_cell h.net 2,
    ld_run (cs := linkC (rate (Bf j)) (Df j) 0 (U j) (N j)) Yba.underlying36 rfl (size36 _ _ _ _ _) (fun t v hv => (h.chCell hj t (by have := (List.getElem?_eq_some_iff.1 hv).1; simpa [linkC] using this)).trans hv),
    ld24 hrg,
    ld_run (cs := freeC (U j) (N j)) Yba.underlying34 rfl (size34 _ _) (fun t v hv => (h.exCell hj t (by have := (List.getElem?_eq_some_iff.1 hv).1; simpa [freeC] using this)).trans hv)⟩

set_option maxRecDepth 100000 in
set_option maxHeartbeats 2000000 in
theorem law_small (now r : Int) (a2 : Option Addr) (n c2 : Nat) (tr tb td tu tn size : Int) (w : World) (Bf Df Uf Nf : Nat → Int) (hch : ChainAt w a2 n Bf Df Uf Nf) (hn : n ≤ 1048576) :
    Calls Yba.prog 3 #[.int .i64 now, .int .i64 r, .slice a2 n c2, .int .i64 tr, .agg #[.int .i64 tb, .int .i64 td, .int .i64 tu, .int .i64 tn], .int .i64 size] w
      fun e w' => e = .returned (.bool true) ∧ Below w.heap.size w w' := by
  have q0 : (0 : Int) ≤ n := by omega
  have q1 : (n : Int) ≤ 1048576 := by omega
  obtain ⟨w1, L0, hm1, hL0, hL0n, hs1, hb1⟩ := make_run (w.alloc (.cells #[.int .i64 tb, .int .i64 td, .int .i64 tu, .int .i64 tn] 24)) 27 36 _ 5 40 n Yba.underlying27 Yba.info36 (by omega) hn
  obtain ⟨w2, E0, hm2, hE0, hE0n, hs2, hb2⟩ := make_run (w1.alloc (.cells #[.slice none 0 0, .slice none 0 0, .slice (some ⟨w.heap.size + 1, 0, none⟩) n n] 29)) 30 34 _ 2 16 n Yba.underlying30 Yba.info34 (by omega) hn
  rw [World.size_alloc] at hm1 hL0 hs1 hs2 hm2 hE0
  obtain ⟨a, ha, han⟩ := mod_nat r n
  obtain ⟨t, htm, htn⟩ := mod_nat tr n
  have a0 : (0 : Int) ≤ a := by omega
  have a1 : (a : Int) ≤ 1048576 := by omega
  have t0 : (0 : Int) ≤ t := by omega
  have t1 : (t : Int) ≤ 1048576 := by omega
  have hB1 : w1.heap[w.heap.size]? = some (.cells #[.int .i64 tb, .int .i64 td, .int .i64 tu, .int .i64 tn] 24 (0, 0)) := (hb1.block _ (by simp)).trans (heap_alloc_new w _)
  have hbw2 : Below w.heap.size w w2 := (((Below.refl _ w).alloc (Nat.le_refl _) _).trans (hb1.mono (by simp))).trans (((Below.refl _ w1).alloc (by rw [hs1]; omega) _).trans (hb2.mono (by simp [hs1]; omega)))
  have hB2 : w2.heap[w.heap.size]? = some (.cells #[.int .i64 tb, .int .i64 td, .int .i64 tu, .int .i64 tn] 24 (0, 0)) := (hb2.block _ (by simp [hs1]; omega)).trans ((Below.heap_alloc _ _ _ (by rw [hs1]; omega)).trans hB1)
  have hN2 : w2.heap[w1.heap.size]? = some (.cells #[.slice none 0 0, .slice none 0 0, .slice (some ⟨w.heap.size + 1, 0, none⟩) n n] 29 (0, 0)) := (hb2.block _ (by simp)).trans (heap_alloc_new w1 _)
  have hL2 : w2.heap[w.heap.size + 1]? = some (.cells L0.toArray 36 (0, 0)) := (hb2.block _ (by simp [hs1])).trans ((Below.heap_alloc _ _ _ (by rw [hs1]; omega)).trans hL0)
  obtain ⟨bl, hbl⟩ : ∃ bl, bl = w.heap.size + 1 := ⟨_, rfl⟩
  obtain ⟨bn, hbn⟩ : ∃ bn, bn = w1.heap.size := ⟨_, rfl⟩
  obtain ⟨be, hbe⟩ : ∃ be, be = w1.heap.size + 1 := ⟨_, rfl⟩
  have hsz2 : w2.heap.size = w.heap.size + 4 := by omega
  have ebn : bn = w.heap.size + 2 := by omega
  have ebe : be = w.heap.size + 3 := by omega
  rw [← hbl] at hm1 hm2 hL2 hN2
  rw [← hbe] at hm2 hE0
  rw [← hbn] at hN2
  have HE0 := hide hE0
  have HL2 := hide hL2
  have HB2 := hide hB2
  have HN2 := hide hN2
  have HS2 := hide hsz2
  have HBL := hide hbl
  have HBN := hide ebn
  have HBE := hide ebe
  have hltn : bl < w2.heap.size ∧ bn < w2.heap.size ∧ be < w2.heap.size ∧ w.heap.size < w2.heap.size := by omega
  have hne : bl ≠ bn ∧ bl ≠ be ∧ bn ≠ be ∧ bl ≠ w.heap.size ∧ be ≠ w.heap.size ∧ w.heap.size ≤ bl ∧ w.heap.size ≤ be := by omega
  have HLT := hide hltn
  have HNE := hide hne
  clear hL0 hE0 hs1 hs2 hB1 hB2 hN2 hL2 hltn hne hsz2 hb1 hb2 hbl ebn ebe
  go_enter Yba.func3, Yba.ntmps3
  go_wp2_with fail
  rw [← hbe, ← hbn]
  have HBn := hide hbn
  have HBe := hide hbe
  clear hbn hbe ha htm
  go_loopw [18] (fun i wr => ∃ (k : Nat) (L E : List Value), i = .int .i64 k ∧ k ≤ n ∧ wr.heap[bl]? = some (.cells L.toArray 36 (0, 0)) ∧ L.length = n * 5 ∧ L.take (k * 5) = rows (fun i => linkC (rate (Bf i)) (Df i) 0 (Uf i) (Nf i)) k ∧
      wr.heap[be]? = some (.cells E.toArray 34 (0, 0)) ∧ E.length = n * 2 ∧ E.take (k * 2) = rows (fun i => freeC (Uf i) (Nf i)) k ∧ Kept (fun j => j = bl ∨ j = be) w2 wr) (fun i _ => n - (intOf i).toNat)
  case atStart => exact ⟨0, L0, E0, rfl, Nat.zero_le _, HL2.out, hL0n, by simp [rows], HE0.out, hE0n, by simp [rows], Kept.refl _ _⟩
  case round =>
    obtain ⟨k, L, E, rfl, hk, hL, hLn, hLt, hE, hEn, hEt, hK⟩ := hrel
    obtain ⟨ne1, ne2, ne3, ne4, ne5, le1, le2⟩ := HNE.out
    obtain ⟨lt1, lt2, lt3, lt4⟩ := HLT.out
    have hbr : Below w.heap.size w wr := hbw2.trans (hK.below (by omega) (by rintro j (e | e) <;> omega))
    by_cases hlt : k < n
    · obtain ⟨b, off, hab, hbl2, hrg⟩ := (hch.below hbr) k hlt
      subst hab
      have hNr : wr.heap[bn]? = some (.cells #[.slice none 0 0, .slice none 0 0, .slice (some ⟨bl, 0, none⟩) n n] 29 (0, 0)) := (hK.block bn lt2 (by rintro (e | e) <;> omega)).trans HN2.out
      have cn : wr.cell? ⟨bn, 2, none⟩ = some (.slice (some ⟨bl, 0, none⟩) n n) := by simp [World.cell?, hNr]
      have hbnr : bn < wr.heap.size := block_lt hNr
      have k0 : (0 : Int) ≤ (k : Int) := by omega
      have k1 : (k : Int) < (n : Int) := by omega
      have hldd : (ldS (.pointer (some ⟨b, off + k * 4, none⟩)) 24).run Yba.prog wr.drew = .ok (.agg #[.int .i64 (Bf k), .int .i64 (Df k), .int .i64 (Uf k), .int .i64 (Nf k)]) wr.drew := ld24 (w := wr.drew) hrg
      have hrb : b ≠ bl ∧ b ≠ be := by
        obtain ⟨b', off', hab', hl', _⟩ := hch k hlt
        cases hab'
        omega
      obtain ⟨nb1, nb2⟩ := hrb
      generalize hB : Bf k = Bk at *
      generalize hD : Df k = Dk at *
      generalize hU : Uf k = Uk at *
      generalize hN : Nf k = Nk at *
      have HB := hide hB
      have HD := hide hD
      have HU := hide hU
      have HN := hide hN
      have HL := hide hL
      have HE := hide hE
      have HLt := hide hLt
      have HEt := hide hEt
      have HR := hide hrg
      clear hB hD hU hN hL hE hLt hEt hrg
      go_wp2_with fail
      go_region_held3 (fun w' => w'.cell? ⟨bn, 2, none⟩ = some (.slice (some ⟨bl, 0, none⟩) n n) ∧ (ldS (.pointer (some ⟨b, off + k * 4, none⟩)) 24).run Yba.prog w' = .ok (.agg #[.int .i64 Bk, .int .i64 Dk, .int .i64 Uk, .int .i64 Nk]) w')
        (first
          | exact ⟨cn, hldd⟩
          | exact ⟨(hbc.cell (p := ⟨bn, 2, none⟩) hbnr).trans cn, ld24 (range_kept (w := wr.drew) (unhide HR) (kept_of_below (S := fun _ => False) hbc) hbl2 (fun e => e))⟩
          | exact ⟨(World.cell?_of_block (hK4.block bn (Nat.lt_of_lt_of_le hbnr hbc.size) (fun e => ne1 e.symm))).trans ((hbc.cell (p := ⟨bn, 2, none⟩) hbnr).trans cn), ld24 (range_kept (range_kept (w := wr.drew) (unhide HR) (kept_of_below (S := fun _ => False) hbc) hbl2 (fun e => e)) hK4 (Nat.lt_of_lt_of_le hbl2 hbc.size) nb1)⟩)
        ((go_at_call 4; refine (mk_any Bk Dk Uk Nk 0 _).mono ?_; rintro e w3 ⟨rfl, hbc⟩; obtain ⟨w4, hst4, hL4, hK4⟩ := st_run w3 bl (k * 5) 36 L (linkC (rate Bk) Dk 0 Uk Nk) ((hbc.block bl (block_lt (w := wr.drew) (unhide HL))).trans (unhide HL)) (by rw [hLn]; simp [linkC]; omega) (size36 _ _ _ _ _) (linkC_one _ _ _ _ _); simp only [linkC] at hst4))
      have hk3 : Kept (fun j => j = bl ∨ j = be) wr w3 := (kept_of_below (S := fun j => j = bl ∨ j = be) (w := wr) (w' := w3) ⟨hbc.os, hbc.tape, hbc.output, hbc.size, hbc.block⟩)
      have hk4 : Kept (fun j => j = bl ∨ j = be) wr w4 := hk3.trans (hK4.widen (fun j e => Or.inl e))
      have hr4 : w4.rangeAt b (off + k * 4) (datC Bk Dk Uk Nk) := range_kept (unhide HR) hk4 hbl2 (by rintro (e | e); exact nb1 e; exact nb2 e)
      have cu : w4.cell? ⟨b, off + k * 4 + 2, none⟩ = some (.int .i64 Uk) := hr4 2 _ rfl
      have cw : w4.cell? ⟨b, off + k * 4 + 3, none⟩ = some (.int .i64 Nk) := hr4 3 _ rfl
      have hE4 : w4.heap[be]? = some (.cells E.toArray 34 (0, 0)) := (hK4.block be (Nat.lt_of_lt_of_le (block_lt (unhide HE)) hbc.size) (fun e => ne2 e.symm)).trans ((hbc.block be (block_lt (w := wr.drew) (unhide HE))).trans (unhide HE))
      obtain ⟨w5, hst5, hE5, hK5⟩ := st_run w4.drew be (k * 2) 34 E (freeC Uk Nk) hE4 (by rw [hEn]; simp [freeC]; omega) (size34 _ _) (freeC_one _ _)
      simp only [freeC] at hst5
      have hK5' : Kept (fun j => j = be) w4 w5 := ((Kept.refl _ w4).drew).trans hK5
      have hL5 := (hK5'.block bl (block_lt hL4) ne2).trans hL4
      have HL4 := hide hL4
      have HL5 := hide hL5
      have HE5 := hide hE5
      have HE4 := hide hE4
      clear hL4 hL5 hE5 hE4 hldd cn hNr hr4
      go_wp2_with fail
      go_region
      go_wp2
      go_roundw
      case rel =>
        refine ⟨k + 1, _, _, by go_num, by omega, HL5.out, by simp [linkC]; omega, ?_, HE5.out, by simp [freeC]; omega, ?_, hK.trans (hk4.trans (hK5'.widen (fun j e => Or.inr e)))⟩
        · rw [rows, unhide HB, unhide HD, unhide HU, unhide HN, ← HLt.out, show (k + 1) * 5 = k * 5 + 5 by omega]
          exact take_mid L _ (k * 5) (k * 5 + 5) (by omega) (by simp [linkC])
        · rw [rows, unhide HU, unhide HN, ← HEt.out, show (k + 1) * 2 = k * 2 + 2 by omega]
          exact take_mid E _ (k * 2) (k * 2 + 2) (by omega) (by simp [freeC])
      case measure => simp [intOf]; omega
    · have hkn : k = n := by omega
      subst hkn
      have hLr : L = rows (fun i => linkC (rate (Bf i)) (Df i) 0 (Uf i) (Nf i)) k := by rw [← hLt, ← hLn, List.take_length]
      have hEr : E = rows (fun i => freeC (Uf i) (Nf i)) k := by rw [← hEt, ← hEn, List.take_length]
      subst hLr hEr
      have hBr : wr.heap[w.heap.size]? = some (.cells (datC tb td tu tn).toArray 24 (0, 0)) := (hK.block _ lt4 (by rintro (e | e) <;> omega)).trans HB2.out
      have hNr : wr.heap[bn]? = some (.cells ([.slice none 0 0, .slice none 0 0, .slice (some ⟨bl, 0, none⟩) k k] : List Value).toArray 29 (0, 0)) := (hK.block bn lt2 (by rintro (e | e) <;> omega)).trans HN2.out
      have hld : (ldS (.pointer (some ⟨w.heap.size, 0, none⟩)) 24).run Yba.prog wr = .ok (.agg #[.int .i64 tb, .int .i64 td, .int .i64 tu, .int .i64 tn]) wr := ld24 (fun t v hv => by rw [Nat.zero_add, block_cell hBr]; exact hv)
      have HBr := hide hBr
      have HNr := hide hNr
      have HL := hide hL
      have HE := hide hE
      have hbig : w.heap.size + 4 ≤ wr.heap.size := by have := hK.size; have := HS2.out; omega
      clear hBr hNr hL hE hm1 hm2
      go_wp2_with fail
      refine (mk_any tb td tu tn (1 + (t : Int)) wr).mono ?_
      rintro e w3 ⟨rfl, hbc⟩
      have hB3 : w3.heap[w.heap.size]? = some (.cells (datC tb td tu tn).toArray 24 (0, 0)) := (hbc.block _ (by omega)).trans HBr.out
      have cc2 : w3.cell? ⟨w.heap.size, 2, none⟩ = some (.int .i64 tu) := block_cell hB3 2
      have cc3 : w3.cell? ⟨w.heap.size, 3, none⟩ = some (.int .i64 tn) := block_cell hB3 3
      have hl3 : w.heap.size < w3.heap.size := block_lt hB3
      have st1 := fun (w : World) => st_new w 36 [.int .i64 0, .int .i64 0, .int .i64 0, .int .i64 0, .int .i64 0] (linkC (rate tb) td (1 + (t : Int)) tu tn) rfl (size36 _ _ _ _ _) (linkC_one _ _ _ _ _)
      have st2 := st_new (w3.alloc (.cells #[.int .i64 (rate tb), .int .i64 td, .int .i64 (1 + (t : Int)), .int .i64 tu, .int .i64 tn] 36)) 34 [.int .i64 0, .int .i64 0] (freeC tu tn) rfl (size34 _ _) (freeC_one _ _)
      simp only [linkC, freeC] at st1 st2
      rw [World.size_alloc] at st2
      have HB3 := hide hB3
      clear hB3 hld
      go_upto_if 97 with fail
      have hS := st_start w wr w3 bn bl be k t tb td tu tn Bf Df Uf Nf HBL.out HBN.out HBE.out hbr hbig hbc HBr.out HNr.out HL.out HE.out
      generalize ((w3.alloc (.cells #[.int .i64 (rate tb), .int .i64 td, .int .i64 (1 + (t : Int)), .int .i64 tu, .int .i64 tn] 36)).alloc (.cells #[.int .i64 tu, .int .i64 tn] 34)) = w4 at *
      generalize w3.heap.size + 1 = bf at *
      generalize w3.heap.size = bt at *
      clear st1 cc2 cc3 HB3 HL HE HNr HBr hbr hbc hbig HE0 HL2 HB2 HN2 HS2 HBL HBN HBE HLT HNE HBn HBe hK
      go_cut [21, 22] from 95 to 139 (fun s1 s2 wc => ∃ X Y, s1 = .int .i64 X ∧ s2 = .int .i64 Y ∧ Mid w.heap.size w w.heap.size bn bl be bt bf k t a tb td tu tn Bf Df now size X Y wc)
      case first =>
        have b0 : w4.cell? ⟨w.heap.size, 0, none⟩ = some (.int .i64 tb) := block_cell hS.box 0
        have b1 : w4.cell? ⟨w.heap.size, 1, none⟩ = some (.int .i64 td) := block_cell hS.box 1
        rcases Nat.lt_trichotomy a t with hat | hat | hat
        · have han' : a < k := by omega
          obtain ⟨b, off, hab, hbl2, hrg⟩ := (hch.below hS.bel) a han'
          subst hab
          have hld := ld24 hrg
          have st3 := st_new w4 24 [.int .i64 0, .int .i64 0, .int .i64 0, .int .i64 0] (datC (Bf a) (Df a) (Uf a) (Nf a)) rfl (size24 _ _ _ _) (ints_oneCell .i64 [_, _, _, _])
          simp only [datC] at st3
          obtain ⟨w5, hw5⟩ : ∃ w5, w5 = w4.alloc (.cells #[.int .i64 (Bf a), .int .i64 (Df a), .int .i64 (Uf a), .int .i64 (Nf a)] 24) := ⟨_, rfl⟩
          rw [← hw5] at st3
          have hS5 := hS.kept (w' := w5) (by rw [hw5]; exact (Kept.refl _ _).alloc _)
          have d0 : w5.cell? ⟨w4.heap.size, 0, none⟩ = some (.int .i64 (Bf a)) := by rw [hw5, World.cell?_alloc_new]; rfl
          have d1 : w5.cell? ⟨w4.heap.size, 1, none⟩ = some (.int .i64 (Df a)) := by rw [hw5, World.cell?_alloc_new]; rfl
          have hl5 : w4.heap.size < w5.heap.size := by rw [hw5]; simp
          have hbe4 : be < w4.heap.size := block_lt hS.exp
          have hex : w5.cell? ⟨be, a * 2 + 0, none⟩ = some (.int .i64 (Uf a)) := hS5.exCell han' 0 (by omega)
          have harr := arrive_any be (a * 2) 0 (Or.inl rfl) now size (rate (Bf a)) (Df a) (Uf a) w5.drew hex (block_frozen hS5.exp) (rate_ne _)
          have hra := fun (w : World) => rate_any (Bf a) w
          have h1 : ((1 + (a : Int)) == (1 + (t : Int))) = false := by simp; omega
          have h2 : ¬ (1 + (t : Int)) < (1 + (a : Int)) := by omega
          have h4 : (a : Int) < (k : Int) := by omega
          have HAR := hide harr
          have HRA := hide hra
          have HS := hide hS
          have HS5 := hide hS5
          have HEX := hide hex
          have HW5 := hide hw5
          clear harr hra hS hS5 hex hw5 hrg hch hLt hLn hEt hEn hL0n hE0n st2 hbw2
          have hw1 : IntKind.i64.wrap (1 + (a : Int) - 1) = (a : Int) := by rw [IntKind.wrap_i64]; omega
          have hw2 : IntKind.i64.wrap (a : Int) = (a : Int) := by rw [IntKind.wrap_i64]; omega
          go_wp2_with fail
          go_region_held3 (fun w' => w'.cell? ⟨w4.heap.size, 0, none⟩ = some (.int .i64 (Bf a)) ∧ w'.cell? ⟨w4.heap.size, 1, none⟩ = some (.int .i64 (Df a)))
            (first
              | exact ⟨d0, d1⟩
              | exact ⟨(World.cell?_setCell_other w5 _ ⟨w4.heap.size, 0, none⟩ _ (fun e => by injection e with e1; omega)).trans d0, (World.cell?_setCell_other w5 _ ⟨w4.heap.size, 1, none⟩ _ (fun e => by injection e with e1; omega)).trans d1⟩)
            (first
              | (go_at_call 6; refine (unhide HRA _).mono ?_; rintro e w7 ⟨rfl, rfl⟩)
              | (go_at_call 5; refine (unhide HAR).mono ?_; rintro e w6 ⟨rfl, rfl⟩))
          go_wp2
          go_meet
          case rel =>
            refine ⟨_, _, rfl, rfl, ?_⟩
            exact mid_up now size a hat htn hn (((unhide HS5).setExU a han' _).kept ((Kept.refl _ _).drew.drew))
        · subst hat
          have hcf : w4.cell? ⟨bf, 0 + 1, none⟩ = some (.int .i64 tn) := block_cell hS.tf 1
          have harr := arrive_any bf 0 1 (Or.inr rfl) now size (rate tb) td tn w4.drew hcf (block_frozen hS.tf) (rate_ne _)
          have hra := fun (w : World) => rate_any tb w
          have hbf : bf ≠ w.heap.size := fun e => hS.six.1.2.2.2.2 e.symm
          have HAR := hide harr
          have HRA := hide hra
          have HS := hide hS
          clear harr hra hS hcf hch hLt hLn hEt hEn hL0n hE0n st2 hbw2
          go_wp2_with fail
          go_region_held3 (fun w' => w'.cell? ⟨w.heap.size, 0, none⟩ = some (.int .i64 tb) ∧ w'.cell? ⟨w.heap.size, 1, none⟩ = some (.int .i64 td))
            (first
              | exact ⟨b0, b1⟩
              | exact ⟨(World.cell?_setCell_other w4 _ ⟨w.heap.size, 0, none⟩ _ (fun e => by injection e with e1; exact hbf e1)).trans b0, (World.cell?_setCell_other w4 _ ⟨w.heap.size, 1, none⟩ _ (fun e => by injection e with e1; exact hbf e1)).trans b1⟩)
            (first
              | (go_at_call 6; refine (unhide HRA _).mono ?_; rintro e w7 ⟨rfl, rfl⟩)
              | (go_at_call 5; refine (unhide HAR).mono ?_; rintro e w6 ⟨rfl, rfl⟩))
          go_wp2
          go_meet
          case rel =>
            refine ⟨_, _, rfl, rfl, ?_⟩
            exact mid_eq now size (((unhide HS).setTf _).kept ((Kept.refl _ _).drew.drew))
        · obtain ⟨j, rfl⟩ : ∃ j, a = j + 1 := ⟨a - 1, by omega⟩
          have han' : j < k := by omega
          obtain ⟨b, off, hab, hbl2, hrg⟩ := (hch.below hS.bel) j han'
          subst hab
          have hld := ld24 hrg
          have st3 := st_new w4 24 [.int .i64 0, .int .i64 0, .int .i64 0, .int .i64 0] (datC (Bf j) (Df j) (Uf j) (Nf j)) rfl (size24 _ _ _ _) (ints_oneCell .i64 [_, _, _, _])
          simp only [datC] at st3
          obtain ⟨w5, hw5⟩ : ∃ w5, w5 = w4.alloc (.cells #[.int .i64 (Bf j), .int .i64 (Df j), .int .i64 (Uf j), .int .i64 (Nf j)] 24) := ⟨_, rfl⟩
          rw [← hw5] at st3
          have hS5 := hS.kept (w' := w5) (by rw [hw5]; exact (Kept.refl _ _).alloc _)
          have d0 : w5.cell? ⟨w4.heap.size, 0, none⟩ = some (.int .i64 (Bf j)) := by rw [hw5, World.cell?_alloc_new]; rfl
          have d1 : w5.cell? ⟨w4.heap.size, 1, none⟩ = some (.int .i64 (Df j)) := by rw [hw5, World.cell?_alloc_new]; rfl
          have hl5 : w4.heap.size < w5.heap.size := by rw [hw5]; simp
          have hbe4 : be < w4.heap.size := block_lt hS.exp
          have hex : w5.cell? ⟨be, j * 2 + 1, none⟩ = some (.int .i64 (Nf j)) := hS5.exCell han' 1 (by omega)
          have harr := arrive_any be (j * 2) 1 (Or.inr rfl) now size (rate (Bf j)) (Df j) (Nf j) w5.drew hex (block_frozen hS5.exp) (rate_ne _)
          have hra := fun (w : World) => rate_any (Bf j) w
          obtain ⟨R, hR⟩ : ∃ R : Int, R = 1 + ((j + 1 : Nat) : Int) := ⟨_, rfl⟩
          have h1 : (R == (1 + (t : Int))) = false := by rw [hR]; simp; omega
          have h2 : (1 + (t : Int)) < R := by rw [hR]; omega
          have h3 : R - 1 - 1 = (j : Int) := by omega
          have h4 : (j : Int) < (k : Int) := by omega
          have h5 : (0 : Int) ≤ R - 1 := by omega
          have h6 : R ≤ 1048577 := by omega
          rw [← hR]
          have HAR := hide harr
          have HRA := hide hra
          have HS := hide hS
          have HS5 := hide hS5
          have HEX := hide hex
          have HW5 := hide hw5
          have HR := hide hR
          have HAT := hide hat
          clear harr hra hS hS5 hex hw5 hrg hch hLt hLn hEt hEn hL0n hE0n st2 hbw2 hR hat a0 a1 han
          go_wp2_with fail
          have hw1 : IntKind.i64.wrap (R - 1 - 1) = (j : Int) := by rw [IntKind.wrap_i64]; omega
          have hw2 : IntKind.i64.wrap (j : Int) = (j : Int) := by rw [IntKind.wrap_i64]; omega
          go_region_held3 (fun w' => w'.cell? ⟨w4.heap.size, 0, none⟩ = some (.int .i64 (Bf j)) ∧ w'.cell? ⟨w4.heap.size, 1, none⟩ = some (.int .i64 (Df j)))
            (first
              | exact ⟨d0, d1⟩
              | exact ⟨(World.cell?_setCell_other w5 _ ⟨w4.heap.size, 0, none⟩ _ (fun e => by injection e with e1; omega)).trans d0, (World.cell?_setCell_other w5 _ ⟨w4.heap.size, 1, none⟩ _ (fun e => by injection e with e1; omega)).trans d1⟩)
            (first
              | (go_at_call 6; refine (unhide HRA _).mono ?_; rintro e w7 ⟨rfl, rfl⟩)
              | (go_at_call 5; refine (unhide HAR).mono ?_; rintro e w6 ⟨rfl, rfl⟩))
          go_wp2
          have hR := unhide HR
          subst hR
          go_meet
          case rel =>
            refine ⟨_, _, rfl, rfl, ?_⟩
            rw [show 1 + ((j + 1 : Nat) : Int) - 1 = 1 + ((j : Int) + 1) - 1 by omega]
            exact mid_down now size j HAT.out han' hn (((unhide HS5).setExN j han' _).kept ((Kept.refl _ _).drew.drew))
      case rest =>
        obtain ⟨X, Y, rfl, rfl, hM⟩ := hcut
        unfold Mid at hM
        have HM := hide hM
        have HCH := hide hch
        have HS0 := hide hS
        clear hM hch hLt hLn hEt hEn hL0n hE0n st2 hbw2 hS
        go_wp2_with fail
        refine (unhide HM).mono ?_
        rintro e w5 ⟨rfl, U, N, x, y, hS⟩
        have l36 : (ldS (.pointer (some ⟨bt, 0, none⟩)) 36).run Yba.prog w5 = .ok (.agg #[.int .i64 (rate tb), .int .i64 td, .int .i64 (1 + (t : Int)), .int .i64 x, .int .i64 y]) w5 := ld_run (cs := linkC (rate tb) td (1 + (t : Int)) x y) Yba.underlying36 rfl (size36 _ _ _ _ _) (fun t v hv => by rw [Nat.zero_add, block_cell hS.tl]; exact hv)
        have l24 : (ldS (.pointer (some ⟨w.heap.size, 0, none⟩)) 24).run Yba.prog w5 = .ok (.agg #[.int .i64 tb, .int .i64 td, .int .i64 tu, .int .i64 tn]) w5 := ld24 (fun t v hv => by rw [Nat.zero_add, block_cell hS.box]; exact hv)
        have l34 : (ldS (.pointer (some ⟨bf, 0, none⟩)) 34).run Yba.prog w5 = .ok (.agg #[.int .i64 x, .int .i64 y]) w5 := ld_run (cs := freeC x y) Yba.underlying34 rfl (size34 _ _) (fun t v hv => by rw [Nat.zero_add, block_cell hS.tf]; exact hv)
        have HS := hide hS
        clear hS
        go_wp2_with fail
        refine (same_any tb td (1 + (t : Int)) x y tu tn w5).mono ?_
        rintro e w6 ⟨rfl, hbc⟩
        have hS6 := (unhide HS).kept (kept_of_below hbc)
        have c0 : w6.cell? ⟨bn, 0, none⟩ = some (.slice none 0 0) := block_cell hS6.net 0
        have c1 : w6.cell? ⟨bn, 1, none⟩ = some (.slice none 0 0) := block_cell hS6.net 1
        have c2 : w6.cell? ⟨bn, 2, none⟩ = some (.slice (some ⟨bl, 0, none⟩) k k) := block_cell hS6.net 2
        have HS6 := hide hS6
        clear hS6 l36 l24 l34
        go_wp2_with fail
        go_loopw [29] (fun i wr => ∃ j : Nat, i = .int .i64 j ∧ j ≤ k ∧ Kept (fun _ => False) w6 wr) (fun i _ => k - (intOf i).toNat)
        case atStart => exact ⟨0, rfl, Nat.zero_le _, Kept.refl _ _⟩
        case round =>
          obtain ⟨j, rfl, hj, hK⟩ := hrel
          have hSr := (unhide HS6).kept hK
          by_cases hlt : j < k
          · obtain ⟨b, off, hab, hbl2, hrg⟩ := ((unhide HCH).below hSr.bel) j hlt
            subst hab
            have j0 : (0 : Int) ≤ (j : Int) := by omega
            have j1 : (j : Int) < (k : Int) := by omega
            obtain ⟨cn, l36, l24, l34⟩ := (hSr.kept ((Kept.refl _ wr).drew)).loads (w := wr.drew) hlt hrg
            have cn : wr.cell? ⟨bn, 2, none⟩ = some (.slice (some ⟨bl, 0, none⟩) k k) := cn
            have HSr := hide hSr
            have HRG := hide hrg
            clear hSr hrg
            go_wp2_with fail
            go_region_held3 (fun w' => w'.cell? ⟨bn, 2, none⟩ = some (.slice (some ⟨bl, 0, none⟩) k k) ∧ (ldS (.pointer (some ⟨bl, j * 5, none⟩)) 36).run Yba.prog w' = .ok (.agg #[.int .i64 (rate (Bf j)), .int .i64 (Df j), .int .i64 0, .int .i64 (U j), .int .i64 (N j)]) w' ∧
                (ldS (.pointer (some ⟨b, off + j * 4, none⟩)) 24).run Yba.prog w' = .ok (.agg #[.int .i64 (Bf j), .int .i64 (Df j), .int .i64 (Uf j), .int .i64 (Nf j)]) w' ∧ (ldS (.pointer (some ⟨be, j * 2, none⟩)) 34).run Yba.prog w' = .ok (.agg #[.int .i64 (U j), .int .i64 (N j)]) w')
              (first
                | exact ⟨cn, l36, l24, l34⟩
                | exact ((unhide HSr).kept ((Kept.refl _ wr).drew.trans (kept_of_below hbc7))).loads hlt (range_kept (unhide HRG) ((Kept.refl (fun _ => False) wr).drew.trans (kept_of_below hbc7)) hbl2 (fun e => e)))
              ((go_at_call 8; refine (same_any (Bf j) (Df j) 0 (U j) (N j) (Uf j) (Nf j) _).mono ?_; rintro e w7 ⟨rfl, hbc7⟩))
            go_wp2
            go_roundw
            case rel => exact ⟨j + 1, by go_num, by omega, hK.trans ((Kept.refl _ wr).drew.trans (kept_of_below hbc7))⟩
            case measure => simp [intOf]; omega
          · have hjk : j = k := by omega
            subst hjk
            have HSr := hide hSr
            clear hSr
            go_wp2_with fail
            go_ret
            exact ⟨rfl, (unhide HSr).bel⟩
end Go.Proofs.Ybulkacrqag
