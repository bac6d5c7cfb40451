/-
  Seat b194158a: the law walked whole: its set-up, the call, the two loops that look; the rest by Tail and TailB.
-/
import Derived.Test.YbulkexpzqTailB
import Derived.Deep.CutRange
import Derived.Deep.RegionHeld3
namespace Go.Proofs.Ybulkexpzq
open Go.RowKit
attribute [local go_sem ↓] copyS_eq makeS_eq ldTok_eq stTok_eq bldTok_eq

theorem post_start (w w4 w5 wr w8 : World) (g bc gq n f : Nat) (zs : List Int) (pos bs be : Int) (k : Nat) (L : List Value) (ss : List ByteArray) (n7 : Nat) (ys : List Int)
    (hbr : Below w.heap.size w wr) (hg4 : g < w4.heap.size) (hbc4 : bc < w4.heap.size) (hwgq : w.heap.size ≤ gq) (hgq : gq = w4.heap.size) (hb5 : Below w4.heap.size w4 w5)
    (hG4 : w4.heap[g]? = some (.cells (zs.map (Value.int .i32)).toArray 21 (0, 0))) (hB3 : w4.heap[bc]? = some (.cells (zs.map (Value.int .i32)).toArray 21 (0, 0)))
    (hK : Kept (fun j => j = gq) w5 wr) (hL : wr.heap[gq]? = some (.cells L.toArray 31 (0, 0))) (hLn : L.length = k * 9) (hLt : L.take (k * 9) = tokQ ss k) (hb7 : Below wr.heap.size wr w8)
    (hB7 : w8.heap[wr.heap.size]? = some (.cells (ys.map (Value.int .u8)).toArray 5 (0, 0))) (hs7 : w8.heap.size = wr.heap.size + 1) (hy : ys.length = n7) (hk : k ≤ 1048576) (h7 : n7 ≤ 1048576) :
    Post w.heap.size w ((w8.alloc (.cells #[.int .i64 0] 3)).alloc (.cells (tokC (.slice (some ⟨g, 0, none⟩) n n) (.slice (some ⟨w8.heap.size, 0, none⟩) 1 1) pos 5 (.slice (some ⟨gq, 0, none⟩) k k) (.slice (some ⟨wr.heap.size, 0, none⟩) n7 n7) bs be (f : Int)).toArray 38))
      (w8.heap.size + 1) g bc n f zs (.slice (some ⟨w8.heap.size, 0, none⟩) 1 1) pos 5 (.slice (some ⟨gq, 0, none⟩) k k) (.slice (some ⟨wr.heap.size, 0, none⟩) ys.length n7) bs be k (tokQ ss k) ys := by
  have hrs : w5.heap.size ≤ wr.heap.size := hK.size
  have hs5 : w4.heap.size ≤ w5.heap.size := hb5.size
  have hLq : L = tokQ ss k := by rw [← hLt, ← hLn, List.take_length]
  have old : ∀ j, j < w8.heap.size → ∀ (o1 o2 : Obj), ((w8.alloc o1).alloc o2).heap[j]? = w8.heap[j]? := fun j hj o1 o2 =>
    (Below.heap_alloc _ _ _ (by simp; omega)).trans (Below.heap_alloc _ _ _ hj)
  have w8at : ∀ j, j < w4.heap.size → w8.heap[j]? = w4.heap[j]? := fun j hj =>
    (hb7.block j (by omega)).trans ((hK.block j (by omega) (by omega)).trans (hb5.block j hj))
  refine ⟨?_, ?_, ?_, ?_, ?_, ?_⟩
  · unfold TokAt
    have e := heap_alloc_new (w8.alloc (.cells #[.int .i64 0] 3)) (.cells (tokC (.slice (some ⟨g, 0, none⟩) n n) (.slice (some ⟨w8.heap.size, 0, none⟩) 1 1) pos 5 (.slice (some ⟨gq, 0, none⟩) k k) (.slice (some ⟨wr.heap.size, 0, none⟩) n7 n7) bs be (f : Int)).toArray 38)
    rw [World.size_alloc] at e
    rw [e, hy]
  · rw [old g (by omega)]; exact (w8at g hg4).trans hG4
  · rw [old bc (by omega)]; exact (w8at bc hbc4).trans hB3
  · refine ⟨tokQ_len ss k, .inr ⟨gq, k, L.toArray, rfl, hwgq, ?_, Nat.le_refl _, by unfold maxLen; omega, by simpa using hLn, by simp [hLt]⟩⟩
    have hgr : gq < wr.heap.size := (Array.getElem?_eq_some_iff.1 hL).1
    rw [old gq (by omega)]
    exact (hb7.block gq hgr).trans hL
  · refine ⟨by simp, .inr ⟨wr.heap.size, n7, (ys.map (Value.int .u8)).toArray, rfl, hbr.size, ?_, by omega, by unfold maxLen; omega, by simp [hy], by simp [List.take_of_length_le]⟩⟩
    rw [old _ (by omega)]; exact hB7
  · exact ((hbr.trans (hb7.mono hbr.size)).alloc (by have := hbr.size; omega) _).alloc (by have := hbr.size; simp; omega) _


theorem outcome_le {c tst est pos bs be : Int} {f : Nat} {r : Int} {ys : List Int} {n11 : Nat} {pos' st' ts' te' : Int} {m' : Nat} {extra : List Value} {ys' : List Int} (h : Outcome c tst est pos bs be f r ys n11 pos' st' ts' te' m' extra ys') : n11 ≤ m' := by
  rcases h with ⟨_, _, _, _, _, h, _⟩ | ⟨_, _, _, _, ⟨_, _, h, _⟩ | ⟨_, _, _, h, _⟩ | ⟨_, _, _, h, _⟩⟩ <;> omega

theorem tokQ_at (ss : List ByteArray) : ∀ (k j t : Nat) (v : Value), j < k → (tokenC (ss.getD j ByteArray.empty) (j : Int) ((j : Int) + 1))[t]? = some v → (tokQ ss k)[j * 9 + t]? = some v
  | 0, _, _, _, h, _ => absurd h (by omega)
  | k + 1, j, t, v, h, hv => by
    have ht : t < 9 := by have := (List.getElem?_eq_some_iff.1 hv).1; simpa [tokenC] using this
    rw [tokQ]
    by_cases e : j = k
    · subst e
      rw [List.getElem?_append_right (by rw [tokQ_len]; omega), tokQ_len, show j * 9 + t - j * 9 = t by omega]
      exact hv
    · rw [List.getElem?_append_left (by rw [tokQ_len]; omega)]
      exact tokQ_at ss k j t v (by omega) hv

theorem tok_range {w : World} {B g m c : Nat} {ss : List ByteArray} {k : Nat} {extra : List Value} (h : w.ownsRow B 31 9 (.slice (some ⟨g, 0, none⟩) m c) m (tokQ ss k ++ extra)) {j : Nat} (hj : j < k) :
    w.rangeAt g (j * 9) (tokenC (ss.getD j ByteArray.empty) (j : Int) ((j : Int) + 1)) := by
  intro t v hv
  have ht : t < 9 := by have := (List.getElem?_eq_some_iff.1 hv).1; simpa [tokenC] using this
  have := h.cells (g := g) rfl (j * 9 + t) v (by rw [List.getElem?_append_left (by rw [tokQ_len]; omega)]; exact tokQ_at ss k j t v hj hv)
  rw [Addr.add_lit, Nat.zero_add] at this
  exact this



theorem take_mid (L cs : List Value) (o m : Nat) (ho : o ≤ L.length) (hm : m = o + cs.length) : (L.take o ++ cs ++ L.drop m).take m = L.take o ++ cs := by
  subst hm
  rw [List.take_append_of_le_length (by simp; omega)]
  exact List.take_of_length_le (by simp; omega)

set_option maxRecDepth 100000 in
set_option maxHeartbeats 2000000 in
theorem law_small (a0 : Option Addr) (n0 c0 : Nat) (xs : List Int) (c : Int) (slash : Bool) (tst est start pos : Int) (a7 : Option Addr) (n7 c7 : Nat) (ys : List Int) (bs be : Int) (join : Bool) (a11 : Option Addr) (n11 c11 : Nat) (w : World)
    (hx : xs.length = n0) (hy : ys.length = n7) (h0 : RowAt w .i32 a0 xs) (h7 : RowAt w .u8 a7 ys) (hwx : ∀ x ∈ xs, -2147483648 ≤ x ∧ x ≤ 2147483647) (hst0 : 0 ≤ start) (hst1 : start ≤ 18446744073709551615)
    (ss : List ByteArray) (hss : ss.length = n11) (h11 : StrsAt w a11 ss) (hsmall : n0 + n7 + n11 ≤ 1048576) :
    Calls Yba.prog 3 #[.slice a0 n0 c0, .int .i32 c, .bool slash, .int .u8 tst, .int .u8 est, .int .u64 start, .int .i64 pos, .slice a7 n7 c7, .int .i64 bs, .int .i64 be, .bool join, .slice a11 n11 c11] w
      fun e w' => e = .returned (.bool true) ∧ Below w.heap.size w w' := by
  have hb : (n0 : Int) + n7 + n11 ≤ 1048576 := by omega
  have q0 : (0 : Int) ≤ n0 := by omega
  have q7 : (0 : Int) ≤ n7 := by omega
  have q11 : (0 : Int) ≤ n11 := by omega
  obtain ⟨w1, w2, hm1, hc1, hB1, hs1, hb1⟩ := make_copy w 22 21 .i32 4 0 Yba.underlying22 Yba.info21 a0 n0 c0 xs hx (by omega) (by omega) h0
  have hsz : w.heap.size ≤ w2.heap.size := by omega
  have HB1 := hide hB1
  have HS1 := hide hs1
  clear hB1 hs1
  go_enter Yba.func3, Yba.ntmps3
  go_upto_if 55 with fail
  go_cut [25] from 38 to 56 (fun s wc => ∃ (g n : Nat) (zs : List Int), s = .slice (some ⟨g, 0, none⟩) n n ∧ zs.length = n ∧ 1 ≤ n ∧ n ≤ 1048576 ∧ wc.heap[g]? = some (.cells (zs.map (Value.int .i32)).toArray 21 (0, 0)) ∧ Below w.heap.size w wc ∧ w.heap.size ≤ g ∧ (∀ x ∈ zs, -2147483648 ≤ x ∧ x ≤ 2147483647))
  case first =>
    by_cases hn : n0 = 0
    · subst hn
      go_wp2
      go_meet
      case rel => exact ⟨w2.heap.size, 1, [60], rfl, rfl, by omega, by omega, heap_alloc_new w2 _, hb1.alloc hsz _, hsz, by simp⟩
    · have hn0 : ((n0 : Int) == 0) = false := by simp; omega
      go_wp2
      go_meet
      case rel => exact ⟨w.heap.size, n0, xs, rfl, hx, by omega, by omega, HB1.out, hb1, Nat.le_refl _, hwx⟩
  case rest =>
    obtain ⟨g, n, zs, rfl, hz, hn1, hn2, hG, hbc, hgB, hwz⟩ := hcut
    have hglt : g < wc.heap.size := (Array.getElem?_eq_some_iff.1 hG).1
    obtain ⟨bc, hbcd⟩ : ∃ bc, bc = wc.heap.size := ⟨_, rfl⟩
    obtain ⟨w3, w4, hm3, hc3, hB3, hs3, hb3⟩ := make_copy wc 22 21 .i32 4 0 Yba.underlying22 Yba.info21 (some ⟨g, 0, none⟩) n n zs hz (by omega) (by omega) (rowAt_block hG)
    have hG4 : w4.heap[g]? = some (.cells (zs.map (Value.int .i32)).toArray 21 (0, 0)) := (hb3.block g hglt).trans hG
    rw [← hbcd] at hm3 hc3 hB3 hs3 hglt
    have hbw4 : Below w.heap.size w w4 := hbc.trans (hb3.mono hbc.size)
    have hg4 : g < w4.heap.size := by omega
    have hbc4 : bc < w4.heap.size := by omega
    have hbcw : w.heap.size ≤ bc := by rw [hbcd]; exact hbc.size
    have HBCD := hide hbcd
    have HG4 := hide hG4
    have HB3 := hide hB3
    have HZ := hide hz
    clear hB3 hs3 hm1 hc1 hb1 HB1 HS1 hsz hG4 hG hz hbcd hb3 hbc
    have r1 : (1 : Int) ≤ n := by omega
    have r2 : (n : Int) ≤ 1048576 := by omega
    go_upto_if 63 with fail
    go_cut [1] from 57 to 63 (fun s wc' => s = .int .i32 (if slash then 47 else c) ∧ wc' = w4)
    case first =>
      cases slash
      all_goals
        go_wp2
        go_meet
        case rel => exact ⟨rfl, rfl⟩
    case rest =>
      obtain ⟨rfl, hwc⟩ := hcut
      have hwc2 := hwc.symm
      subst hwc2
      clear hwc
      generalize (if slash = true then 47 else c) = c'
      obtain ⟨f, hf⟩ : ∃ f : Nat, start % (n : Int) = (f : Int) := ⟨(start % (n : Int)).toNat, by rw [Int.toNat_of_nonneg (Int.emod_nonneg _ (by omega))]⟩
      have hf2 : (f : Int) < n := by rw [← hf]; exact Int.emod_lt_of_pos _ (by omega)
      have hf1 : (0 : Int) ≤ f := by omega
      obtain ⟨w5, L0, hm5, hL0, hL0n, hs5, hb5⟩ := make_tok w4 n11 (by omega)
      clear hm3 hc3
      go_upto_if 70 with fail
      go_cut [9] from 64 to 71 (fun s wc' => s = .int .i64 (if join then (f : Int) else be) ∧ wc' = w4)
      case first =>
        cases join
        all_goals
          go_wp2
          go_meet
          case rel => exact ⟨rfl, rfl⟩
      case rest =>
        obtain ⟨rfl, hwc⟩ := hcut
        have hwc2 := hwc.symm
        subst hwc2
        clear hwc
        generalize (if join = true then (f : Int) else be) = be'
        clear hf
        have hbw : Below w.heap.size w w5 := hbw4.trans (hb5.mono hbw4.size)
        have hwgq : w.heap.size ≤ w4.heap.size := hbw4.size
        obtain ⟨gq, hgq⟩ : ∃ gq, gq = w4.heap.size := ⟨_, rfl⟩
        rw [← hgq] at hm5 hL0 hwgq hs5
        have HL0 := hide hL0
        have HS5 := hide hs5
        have HGQ := hide hgq
        clear hL0 hs5 hgq
        go_wp2_with fail
        go_loopw [29] (fun i wr => ∃ (k : Nat) (L : List Value), i = .int .i64 k ∧ k ≤ n11 ∧ wr.heap[gq]? = some (.cells L.toArray 31 (0, 0)) ∧ L.length = n11 * 9 ∧ L.take (k * 9) = tokQ ss k ∧ Kept (fun j => j = gq) w5 wr) (fun i _ => n11 - (intOf i).toNat)
        case atStart => exact ⟨0, L0, rfl, Nat.zero_le _, HL0.out, hL0n, by simp [tokQ], Kept.refl _ _⟩
        case round =>
          obtain ⟨k, L, rfl, hk, hL, hLn, hLt, hK⟩ := hrel
          by_cases hlt : k < n11
          · have hbr : Below w.heap.size w wr := hbw.trans (hK.below (by have := hbw.size; omega) (fun j hj => by omega))
            obtain ⟨b, off, ha, hc⟩ := (h11.below hbr) k (by omega)
            subst ha
            obtain ⟨d, hd⟩ : ∃ d, ss.getD k ByteArray.empty = d := ⟨_, rfl⟩
            rw [hd] at hc
            have HD := hide hd
            clear hd
            obtain ⟨w6, hst6, hL6, hK6⟩ := store_tok wr gq k n11 L hL hLn hlt d (k : Int) ((k : Int) + 1)
            have HL := hide hL
            have HLT := hide hLt
            have HL6 := hide hL6
            clear hL hLt hL6
            go_wp2
            go_roundw
            case rel => exact ⟨k + 1, _, by go_num, by omega, HL6.out, by simp [tokenC]; omega, by rw [tokQ, unhide HD, ← HLT.out]; rw [show (k + 1) * 9 = k * 9 + 9 by omega]; exact take_mid L _ (k * 9) (k * 9 + 9) (by omega) (by simp [tokenC]), hK.trans hK6⟩
            case measure => simp [intOf]; omega
          · obtain rfl : k = n11 := by omega
            have hbr : Below w.heap.size w wr := hbw.trans (hK.below (by have := hbw.size; omega) (fun j hj => by omega))
            obtain ⟨w7, w8, hm7, hc7, hB7, hs7, hb7⟩ := make_copy wr 24 5 .u8 1 0 Yba.underlying24 Yba.info5 a7 n7 c7 ys hy (by omega) (by omega) (h7.under hbr)
            have HL := hide hL
            have HLT := hide hLt
            have HB7 := hide hB7
            have HS7 := hide hs7
            clear hL hLt hB7 hs7 hm5
            have hbld := fun (w : World) => bldTok_run w ⟨g, 0, none⟩ ⟨w8.heap.size, 0, none⟩ ⟨gq, 0, none⟩ ⟨wr.heap.size, 0, none⟩ n n 1 1 k k n7 n7 pos bs be' f
            have hP := post_start w w4 w5 wr w8 g bc gq n f zs pos bs be' k L ss n7 ys hbr hg4 hbc4 hwgq HGQ.out hb5 HG4.out HB3.out hK HL.out hLn HLT.out hb7 HB7.out HS7.out hy (by omega) (by omega)
            have HP := hide hP
            clear hP
            go_wp2_with fail
            refine (less_all w.heap.size w _ (w8.heap.size + 1) g bc n f zs _ pos 5 _ wr.heap.size n7 bs be' k (tokQ ss k) ys HP.out (by have := hbr.size; have := hb7.size; simp; omega) (by have := hbr.size; have := hb7.size; omega) HZ.out (by omega) hn2 (by omega) (by omega) hwz c' tst est).mono ?_
            rintro e wp ⟨rfl, pos', st', q', tb', ts', te', m', extra, ys', hP', hO⟩
            generalize w8.heap.size + 1 = bt at *
            have HO := hide hO
            clear hO HP hbld hm7 hc7 HB7 HS7 hb7 HL HLT HL0 HS5 HGQ hK hbw hb5 HB3 HG4 hbw4 hg4 hbc4
            have p0 : wp.cell? ⟨bt, 0, none⟩ = some (.slice (some ⟨g, 0, none⟩) n n) := hP'.tok.cell 0
            have hwp : w.heap.size ≤ wp.heap.size := hP'.bel.size
            clear hbr hL0n hlt hk
            go_wp2_with fail
            go_loopw [32] (fun i wr => ∃ (j : Nat), i = .int .i64 j ∧ j ≤ n ∧ Kept (fun _ => False) wp wr) (fun i _ => n - (intOf i).toNat)
            case atStart => exact ⟨0, rfl, Nat.zero_le _, Kept.refl _ _⟩
            case round =>
              obtain ⟨j, rfl, hj, hK2⟩ := hrel
              have hPr := hP'.kept hK2 hwp
              have q0r : wr.cell? ⟨bt, 0, none⟩ = some (.slice (some ⟨g, 0, none⟩) n n) := hPr.tok.cell 0
              by_cases hlt : j < n
              · have hj0 : (0 : Int) ≤ (j : Int) := by omega
                have hj1 : (j : Int) < (n : Int) := by omega
                have cs := row_cell hPr.src j (by rw [HZ.out]; exact hlt)
                have cc := row_cell hPr.cpy j (by rw [HZ.out]; exact hlt)
                generalize zs.getD j 0 = x at cs cc
                clear p0
                go_wp2_with fail
                go_region
                go_wp2
                go_roundw
                case rel => exact ⟨j + 1, by go_num, by omega, hK2.drew⟩
                case measure => simp [intOf]; omega
              · have hjn : j = n := by omega
                subst hjn
                have q15 : wr.cell? ⟨bt, 15, none⟩ = some (.int .i64 f) := hPr.tok.cell 15
                have q3 : wr.cell? ⟨bt, 3, none⟩ = some (.int .i64 7) := hPr.tok.cell 3
                have q5 : wr.cell? ⟨bt, 5, none⟩ = some (.int .u8 44) := hPr.tok.cell 5
                have q11 : wr.cell? ⟨bt, 11, none⟩ = some (.int .i64 0) := hPr.tok.cell 11
                have q8 : wr.cell? ⟨bt, 8, none⟩ = some (.slice none 0 0) := hPr.tok.cell 8
                clear p0
                go_wp2_with fail
                clear q15 q3 q5 q11 q8 q0r
                obtain ⟨wq, hwq⟩ : ∃ wq, wq = wr := ⟨_, rfl⟩
                rw [← hwq] at hPr
                have hwp2 : w.heap.size ≤ wq.heap.size := hPr.bel.size
                have hkm : k ≤ m' := outcome_le HO.out
                go_loopw [33] (fun i wr => ∃ (j : Nat), i = .int .i64 j ∧ j ≤ k ∧ Kept (fun _ => False) wq wr) (fun i _ => k - (intOf i).toNat)
                case atStart => exact ⟨0, rfl, Nat.zero_le _, by rw [hwq]; exact Kept.refl _ _⟩
                case round =>
                  obtain ⟨j, rfl, hj, hK3⟩ := hrel
                  have hP3 := hPr.kept hK3 hwp2
                  by_cases hlt : j < k
                  · obtain ⟨gq2, capq, hq2, _, hgq2⟩ := hP3.que.form (by omega)
                    subst hq2
                    have c10 : wr.cell? ⟨bt, 10, none⟩ = some (.slice (some ⟨gq2, 0, none⟩) m' capq) := hP3.tok.cell 10
                    obtain ⟨b, off, ha, hcs⟩ := (h11.below hP3.bel) j (by omega)
                    subst ha
                    have hrng : wr.rangeAt gq2 (j * 9) (tokenC (ss.getD j ByteArray.empty) (j : Int) ((j : Int) + 1)) := tok_range hP3.que hlt
                    generalize ss.getD j ByteArray.empty = d at hcs hrng
                    have hbtl := hP3.tok.lt
                    have hbl : b < wr.heap.size := World.block_lt_of_cell? wr _ hcs
                    have hj0 : (0 : Int) ≤ (j : Int) := by omega
                    have hj1 : (j : Int) < (k : Int) := by omega
                    have hjm : (j : Int) < (m' : Int) := by omega
                    have hd : decide (m' ≤ j) = false := by simp; omega
                    have hw : IntKind.i64.wrap ((j : Int) + 1) = (j : Int) + 1 := by rw [IntKind.wrap_i64]; omega
                    have hld := ld_tok hrng
                    have hldd : (ldTok (.pointer (some ⟨gq2, j * 9, none⟩))).run Yba.prog wr.drew = .ok (.agg (tokenC d (j : Int) ((j : Int) + 1)).toArray) wr.drew := ld_tok (w := wr.drew) hrng
                    go_wp2_with fail
                    go_region_held3 (fun w' => w'.cell? ⟨bt, 10, none⟩ = some (.slice (some ⟨gq2, 0, none⟩) m' capq) ∧ (ldTok (.pointer (some ⟨gq2, j * 9, none⟩))).run Yba.prog w' = .ok (.agg (tokenC d (j : Int) ((j : Int) + 1)).toArray) w' ∧ w'.cell? ⟨b, off + j, none⟩ = some (.string d))
                      (first
                        | exact ⟨c10, hldd, hcs⟩
                        | exact ⟨(hbc1.cell (p := ⟨bt, 10, none⟩) hbtl).trans c10, ld_tok (range_below (w := wr.drew) hrng hbc1 hgq2), (hbc1.cell (p := ⟨b, off + j, none⟩) hbl).trans hcs⟩)
                      ((go_at_call 5; refine (ctok_any d (j : Int) ((j : Int) + 1) _).mono ?_; rintro e w1 ⟨rfl, hbc1⟩))
                    go_wp2
                    go_roundw
                    case rel => exact ⟨j + 1, by go_num, by omega, hK3.drew.trans (kept_of_below hbc1)⟩
                    case measure => simp [intOf]; omega
                  · have hjk : j = k := by omega
                    subst hjk
                    have hP4 := hP3
                    have hB4 : w.heap.size ≤ wr.heap.size := hP3.bel.size
                    have h74 := h7.under hP3.bel
                    go_upto_if 176 with fail
                    go_step
                    go_step
                    go_step
                    go_step
                    go_step
                    go_step
                    rcases HO.out with ⟨d1, d2, d3, d4, d5, d6, d7, d8⟩ | ⟨hc47, e1, e2, e3, ⟨d1, d2, d3, d4, d5⟩ | ⟨d1, d2, d3, d4, d5, d6⟩ | ⟨d1, d2, d3, d4, d5, d6⟩⟩
                    · exact tail_yes hP4 ⟨d1, d2, d3, d4, d5, d6, d8⟩ hy h74
                    · exact tail_A hP4 hc47 hB4 HZ.out (by omega) hn2 hwz (by omega) (by omega) e1 e2 e3 (by rw [← hy, d1]; rfl) d2 d3 d5
                    · exact tail_C hP4 hc47 hB4 HZ.out (by omega) hn2 hwz (by omega) (by omega) e1 e2 e3 (by rw [← hy]; exact List.length_pos_iff.2 d1) d2 hy h74 d3 d4 d6
                    · exact tail_B hP4 hc47 hB4 HZ.out (by omega) hn2 hwz (by omega) (by omega) e1 e2 e3 (by rw [← hy]; exact List.length_pos_iff.2 d1) d2 hy h74 d3 d4 d6 d5

set_option maxRecDepth 100000 in
set_option maxHeartbeats 2000000 in
/-- Too long: the law says true at once. -/
theorem law_big (a0 : Option Addr) (n0 c0 : Nat) (c : Int) (slash : Bool) (tst est start pos : Int) (a7 : Option Addr) (n7 c7 : Nat) (bs be : Int) (join : Bool) (a11 : Option Addr) (n11 c11 : Nat) (w : World)
    (m0 : n0 ≤ 140737488355328) (m7 : n7 ≤ 140737488355328) (m11 : n11 ≤ 140737488355328) (hbig : 1048576 < n0 + n7 + n11) :
    Calls Yba.prog 3 #[.slice a0 n0 c0, .int .i32 c, .bool slash, .int .u8 tst, .int .u8 est, .int .u64 start, .int .i64 pos, .slice a7 n7 c7, .int .i64 bs, .int .i64 be, .bool join, .slice a11 n11 c11] w
      fun e w' => e = .returned (.bool true) ∧ Below w.heap.size w w' := by
  have hb : (1048576 : Int) < (n0 : Int) + n7 + n11 := by omega
  go_enter Yba.func3, Yba.ntmps3
  go_wp2
  go_ret
  exact ⟨rfl, Below.refl _ _⟩

theorem law_any (a0 : Option Addr) (n0 c0 : Nat) (xs : List Int) (c : Int) (slash : Bool) (tst est start pos : Int) (a7 : Option Addr) (n7 c7 : Nat) (ys : List Int) (bs be : Int) (join : Bool) (a11 : Option Addr) (n11 c11 : Nat) (w : World)
    (hx : xs.length = n0) (hy : ys.length = n7) (h0 : RowAt w .i32 a0 xs) (h7 : RowAt w .u8 a7 ys) (hwx : ∀ x ∈ xs, -2147483648 ≤ x ∧ x ≤ 2147483647) (hst0 : 0 ≤ start) (hst1 : start ≤ 18446744073709551615)
    (ss : List ByteArray) (hss : ss.length = n11) (h11 : StrsAt w a11 ss) (m0 : n0 ≤ 140737488355328) (m7 : n7 ≤ 140737488355328) (m11 : n11 ≤ 140737488355328) :
    Calls Yba.prog 3 #[.slice a0 n0 c0, .int .i32 c, .bool slash, .int .u8 tst, .int .u8 est, .int .u64 start, .int .i64 pos, .slice a7 n7 c7, .int .i64 bs, .int .i64 be, .bool join, .slice a11 n11 c11] w
      fun e w' => e = .returned (.bool true) ∧ Below w.heap.size w w' := by
  by_cases hs : n0 + n7 + n11 ≤ 1048576
  · exact law_small a0 n0 c0 xs c slash tst est start pos a7 n7 c7 ys bs be join a11 n11 c11 w hx hy h0 h7 hwx hst0 hst1 ss hss h11 hs
  · exact law_big a0 n0 c0 c slash tst est start pos a7 n7 c7 bs be join a11 n11 c11 w m0 m7 m11 (by omega)
end Go.Proofs.Ybulkexpzq
