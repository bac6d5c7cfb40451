/-
  Seat b194158a: the leaves of the road: the UTF-8 bytes of a rune (zzs194158cenc, utf8.AppendRune), reconsume, zzs194158ctok, bytes.Equal.
-/
import Derived.Test.YbulkexpzqRows
import Derived.WalkKit
import Derived.WalkSpells
import Derived.WalkLawsBesides
namespace Go.Proofs.Ybulkexpzq
open Go.RowKit
theorem hide {p : Prop} (h : p) : Hid p := h
theorem unhide {p : Prop} (h : Hid p) : p := h
theorem Yba.info5 : (Yba.prog.info? 5).map (fun i => (i.zero, i.size, i.bytes)) = some (some (.int .u8 0), 1, 1) := by kernel_rfl
/-- The UTF-8 bytes of r; of an invalid r those of U+FFFD. -/
def enc (r : Int) : List Int :=
  if r < 0 ∨ 1114111 < r ∨ (55296 ≤ r ∧ r ≤ 57343) then [239, 191, 189]
  else if r < 128 then [r]
  else if r < 2048 then [192 + r / 64, 128 + r % 64]
  else if r < 65536 then [224 + r / 4096, 128 + r / 64 % 64, 128 + r % 64]
  else [240 + r / 262144, 128 + r / 4096 % 64, 128 + r / 64 % 64, 128 + r % 64]
theorem enc_bad {r : Int} (h : r < 0 ∨ 1114111 < r ∨ (55296 ≤ r ∧ r ≤ 57343)) : enc r = [239, 191, 189] := if_pos h
theorem enc_1 {r : Int} (h : 0 ≤ r) (h' : r < 128) : enc r = [r] := by unfold enc; rw [if_neg (by omega), if_pos h']
theorem enc_2 {r : Int} (h : 128 ≤ r) (h' : r < 2048) : enc r = [192 + r / 64, 128 + r % 64] := by unfold enc; rw [if_neg (by omega), if_neg (by omega), if_pos h']
theorem enc_3 {r : Int} (h : 2048 ≤ r) (h' : r < 65536) (h3 : r < 55296 ∨ 57343 < r) : enc r = [224 + r / 4096, 128 + r / 64 % 64, 128 + r % 64] := by
  unfold enc; rw [if_neg (by omega), if_neg (by omega), if_neg (by omega), if_pos h']
theorem enc_4 {r : Int} (h : 65536 ≤ r) (h' : r ≤ 1114111) : enc r = [240 + r / 262144, 128 + r / 4096 % 64, 128 + r / 64 % 64, 128 + r % 64] := by
  unfold enc; rw [if_neg (by omega), if_neg (by omega), if_neg (by omega), if_neg (by omega)]

theorem news_new (w : World) (l : List Value) (e : TypeId) : ∀ j u, l[j]? = some u → (w.alloc (.cells l.toArray e)).cell? ((⟨w.heap.size, 0, none⟩ : Addr).add j) = some u := by
  intro j u hu
  rw [Addr.add_lit, World.cell?_alloc_at _ _ _ _ rfl]
  simpa using hu
theorem grown_of_alloc {w w2 : World} {o : Obj} {row : Option Nat} (h : (w.alloc o).grownBy w2 row) : w.grownBy w2 row :=
  ⟨h.os, h.tape, h.output, Nat.le_trans (by simp) h.size, fun k hk hr => (h.block k (by simp; omega) hr).trans (Below.heap_alloc w o k hk)⟩
theorem one2 (k : IntKind) (a b : Int) : ∀ u ∈ [Value.int k a, Value.int k b], u.oneCell' = true := ints_oneCell k [a, b]
theorem one1 (k : IntKind) (a : Int) : ∀ u ∈ [Value.int k a], u.oneCell' = true := ints_oneCell k [a]
theorem one3 (k : IntKind) (a b c : Int) : ∀ u ∈ [Value.int k a, Value.int k b, Value.int k c], u.oneCell' = true := ints_oneCell k [a, b, c]
theorem one4 (k : IntKind) (a b c d : Int) : ∀ u ∈ [Value.int k a, Value.int k b, Value.int k c, Value.int k d], u.oneCell' = true := ints_oneCell k [a, b, c, d]

set_option maxHeartbeats 2000000 in
theorem appn_any (r : Int) (w : World) (h1 : -2147483648 ≤ r) (h2 : r ≤ 2147483647) (base : Nat) (v : Value) (n : Nat) (xs : List Value) (hown : w.ownsRow base 5 1 v n xs) (hb : base ≤ w.heap.size) (hn : n ≤ 2000000)
   (h3 : ¬ (0 ≤ r ∧ r < 128)) :
    Calls Yba.prog 13 #[v, .int .i32 r] w fun e w' => ∃ v', e = .returned v' ∧ w'.ownsRow base 5 1 v' (n + (enc r).length) (xs ++ (enc r).map (Value.int .u8)) ∧ w.grownBy w' v.ownBlock := by
  obtain ⟨i, hi, hz0, hz1, hz2⟩ := info_parts Yba.info5
  by_cases c1 : r < 0
  · have H : Hid (enc r = [239, 191, 189]) := enc_bad (by omega)
    clear h3
    have e1 : 2147483648 ≤ r % 4294967296 := by omega
    go_enter Yba.func13, Yba.ntmps13
    go_wp2_with (at_builtin; refine wpList_append_own _ rfl _ _ 24 rfl base 5 i (.int .u8 0) 1 1 Yba.underlying24 hi hz0 hz1 hz2 rfl (by decide) v n xs rfl (hown.alloc _) _ _ _ [.int .u8 239, .int .u8 191, .int .u8 189] rfl rfl (news_new _ _ _) (one3 _ _ _ _) (by unfold maxLen; omega) (by omega) (by simp; omega) ?_)
    intro v' w' ho hg _
    go_wp2
    go_ret
    rw [H.out]
    exact ⟨_, rfl, ho, grown_of_alloc hg⟩
  have e1 : r % 4294967296 = r := by omega
  by_cases c2 : 1114111 < r
  · have H : Hid (enc r = [239, 191, 189]) := enc_bad (by omega)
    clear h3
    go_enter Yba.func13, Yba.ntmps13
    go_wp2_with (at_builtin; refine wpList_append_own _ rfl _ _ 24 rfl base 5 i (.int .u8 0) 1 1 Yba.underlying24 hi hz0 hz1 hz2 rfl (by decide) v n xs rfl (hown.alloc _) _ _ _ [.int .u8 239, .int .u8 191, .int .u8 189] rfl rfl (news_new _ _ _) (one3 _ _ _ _) (by unfold maxLen; omega) (by omega) (by simp; omega) ?_)
    intro v' w' ho hg _
    go_wp2
    go_ret
    rw [H.out]
    exact ⟨_, rfl, ho, grown_of_alloc hg⟩
  by_cases c3 : 55296 ≤ r ∧ r ≤ 57343
  · have H : Hid (enc r = [239, 191, 189]) := enc_bad (by omega)
    obtain ⟨c3, c4⟩ := c3
    clear h3
    go_enter Yba.func13, Yba.ntmps13
    go_wp2_with (at_builtin; refine wpList_append_own _ rfl _ _ 24 rfl base 5 i (.int .u8 0) 1 1 Yba.underlying24 hi hz0 hz1 hz2 rfl (by decide) v n xs rfl (hown.alloc _) _ _ _ [.int .u8 239, .int .u8 191, .int .u8 189] rfl rfl (news_new _ _ _) (one3 _ _ _ _) (by unfold maxLen; omega) (by omega) (by simp; omega) ?_)
    intro v' w' ho hg _
    go_wp2
    go_ret
    rw [H.out]
    exact ⟨_, rfl, ho, grown_of_alloc hg⟩
  have c3' : r < 55296 ∨ 57343 < r := by omega
  have c4 : 128 ≤ r := by omega
  by_cases c5 : r < 2048
  · have H : Hid (enc r = _) := enc_2 (by omega) (by omega)
    clear c3 c3' h3
    go_enter Yba.func13, Yba.ntmps13
    go_wp2_with (at_builtin; refine wpList_append_own _ rfl _ _ 24 rfl base 5 i (.int .u8 0) 1 1 Yba.underlying24 hi hz0 hz1 hz2 rfl (by decide) v n xs rfl (hown.alloc _) _ _ _ [.int .u8 (192 + r / 64), .int .u8 (128 + r % 64)] rfl rfl (news_new _ _ _) (one2 _ _ _) (by unfold maxLen; omega) (by omega) (by simp; omega) ?_)
    intro v' w' ho hg _
    go_wp2
    go_ret
    rw [H.out]
    exact ⟨_, rfl, ho, grown_of_alloc hg⟩
  by_cases c6 : r < 65536
  · have H : Hid (enc r = _) := enc_3 (by omega) (by omega) (by omega)
    rcases c3' with c3' | c3'
    all_goals
      clear c3 h3
      go_enter Yba.func13, Yba.ntmps13
      go_wp2_with (at_builtin; refine wpList_append_own _ rfl _ _ 24 rfl base 5 i (.int .u8 0) 1 1 Yba.underlying24 hi hz0 hz1 hz2 rfl (by decide) v n xs rfl (hown.alloc _) _ _ _ [.int .u8 (224 + r / 4096), .int .u8 (128 + r / 64 % 64), .int .u8 (128 + r % 64)] rfl rfl (news_new _ _ _) (one3 _ _ _ _) (by unfold maxLen; omega) (by omega) (by simp; omega) ?_)
      intro v' w' ho hg _
      go_wp2
      go_ret
      rw [H.out]
      exact ⟨_, rfl, ho, grown_of_alloc hg⟩
  have H : Hid (enc r = _) := enc_4 (by omega) (by omega)
  rcases c3' with c3' | c3'
  · omega
  · clear c3 h3
    go_enter Yba.func13, Yba.ntmps13
    go_wp2_with (at_builtin; refine wpList_append_own _ rfl _ _ 24 rfl base 5 i (.int .u8 0) 1 1 Yba.underlying24 hi hz0 hz1 hz2 rfl (by decide) v n xs rfl (hown.alloc _) _ _ _ [.int .u8 (240 + r / 262144), .int .u8 (128 + r / 4096 % 64), .int .u8 (128 + r / 64 % 64), .int .u8 (128 + r % 64)] rfl rfl (news_new _ _ _) (one4 _ _ _ _ _) (by unfold maxLen; omega) (by omega) (by simp; omega) ?_)
    intro v' w' ho hg _
    go_wp2
    go_ret
    rw [H.out]
    exact ⟨_, rfl, ho, grown_of_alloc hg⟩

set_option maxHeartbeats 1000000 in
theorem app_any (r : Int) (w : World) (h1 : -2147483648 ≤ r) (h2 : r ≤ 2147483647) (base : Nat) (v : Value) (n : Nat) (xs : List Value) (hown : w.ownsRow base 5 1 v n xs) (hb : base ≤ w.heap.size) (hn : n ≤ 2000000) :
    Calls Yba.prog 12 #[v, .int .i32 r] w fun e w' => ∃ v', e = .returned v' ∧ w'.ownsRow base 5 1 v' (n + (enc r).length) (xs ++ (enc r).map (Value.int .u8)) ∧ w.grownBy w' v.ownBlock := by
  obtain ⟨i, hi, hz0, hz1, hz2⟩ := info_parts Yba.info5
  by_cases c1 : 0 ≤ r ∧ r < 128
  · obtain ⟨c1, c2⟩ := c1
    have H : Hid (enc r = [r]) := enc_1 (by omega) (by omega)
    have e1 : r % 4294967296 = r := by omega
    go_enter Yba.func12, Yba.ntmps12
    go_wp2_with (at_builtin; refine wpList_append_own _ rfl _ _ 24 rfl base 5 i (.int .u8 0) 1 1 Yba.underlying24 hi hz0 hz1 hz2 rfl (by decide) v n xs rfl (hown.alloc _) _ _ _ [.int .u8 r] rfl rfl (news_new _ _ _) (one1 _ _) (by unfold maxLen; omega) (by omega) (by simp; omega) ?_)
    intro v' w' ho hg _
    go_wp2
    go_ret
    rw [H.out]
    exact ⟨_, rfl, ho, grown_of_alloc hg⟩
  · have c2 : 127 < r % 4294967296 := by omega
    have hc := appn_any r w h1 h2 base v n xs hown hb hn c1
    have HC := hide hc
    clear hc c1
    go_enter Yba.func12, Yba.ntmps12
    go_wp2_with fail
    refine (unhide HC).mono ?_
    rintro e w' ⟨v', rfl, ho, hg⟩
    go_wp2
    go_ret
    exact ⟨_, rfl, ho, hg⟩
set_option maxHeartbeats 1000000 in
theorem enc_any (r : Int) (w : World) (h1 : -2147483648 ≤ r) (h2 : r ≤ 2147483647) :
    Calls Yba.prog 7 #[.int .i32 r] w fun e w' => e = .returned (.slice (some ⟨w.heap.size, 0, none⟩) (enc r).length (enc r).length) ∧ w' = w.alloc (.cells ((enc r).map (Value.int .u8)).toArray 5) := by
  by_cases c1 : r < 0
  · have H : Hid (enc r = [239, 191, 189]) := enc_bad (by omega)
    go_enter Yba.func7, Yba.ntmps7
    go_wp2
    go_ret
    rw [H.out]
    exact ⟨rfl, rfl⟩
  by_cases c2 : 1114111 < r
  · have H : Hid (enc r = [239, 191, 189]) := enc_bad (by omega)
    go_enter Yba.func7, Yba.ntmps7
    go_wp2
    go_ret
    rw [H.out]
    exact ⟨rfl, rfl⟩
  by_cases c3 : 55296 ≤ r ∧ r ≤ 57343
  · have H : Hid (enc r = [239, 191, 189]) := enc_bad (by omega)
    obtain ⟨c3, c4⟩ := c3
    go_enter Yba.func7, Yba.ntmps7
    go_wp2
    go_ret
    rw [H.out]
    exact ⟨rfl, rfl⟩
  have c3' : r < 55296 ∨ 57343 < r := by omega
  by_cases c4 : r < 128
  · have H : Hid (enc r = [r]) := enc_1 (by omega) (by omega)
    have : r < 55296 := by omega
    clear c3 c3'
    go_enter Yba.func7, Yba.ntmps7
    go_wp2
    go_ret
    rw [H.out]
    exact ⟨rfl, rfl⟩
  by_cases c5 : r < 2048
  · have H : Hid (enc r = _) := enc_2 (by omega) (by omega)
    have : r < 55296 := by omega
    clear c3 c3'
    go_enter Yba.func7, Yba.ntmps7
    go_wp2
    go_ret
    rw [H.out]
    exact ⟨rfl, rfl⟩
  by_cases c6 : r < 65536
  · have H : Hid (enc r = _) := enc_3 (by omega) (by omega) (by omega)
    rcases c3' with c3' | c3'
    all_goals
      clear c3
      go_enter Yba.func7, Yba.ntmps7
      go_wp2
      go_ret
      rw [H.out]
      exact ⟨rfl, rfl⟩
  have H : Hid (enc r = _) := enc_4 (by omega) (by omega)
  rcases c3' with c3' | c3'
  · omega
  · clear c3
    go_enter Yba.func7, Yba.ntmps7
    go_wp2
    go_ret
    rw [H.out]
    exact ⟨rfl, rfl⟩
set_option maxHeartbeats 400000 in
theorem recon_any (bt : Nat) (p : Int) (s0 : Value) (s : Int) (w : World)
   (h2 : w.cell? ⟨bt, 2, none⟩ = some (.int .i64 p)) (h4 : w.cell? ⟨bt, 4, none⟩ = some s0) (hf : ∀ o, w.frozen? ⟨bt, o, none⟩ = false) :
    Calls Yba.prog 9 #[.pointer (some ⟨bt, 0, none⟩), .int .u8 s] w fun e w' => e = .returned (.tuple #[]) ∧ w' = (w.setCell ⟨bt, 2, none⟩ (.int .i64 (wrap64 (p - 1)))).setCell ⟨bt, 4, none⟩ (.int .u8 s) := by
  go_enter Yba.func9, Yba.ntmps9
  go_wp2
  go_end0
  exact ⟨rfl, rfl⟩
set_option maxHeartbeats 400000 in
theorem ctok_any (d : ByteArray) (s e : Int) (w : World)  :
    Calls Yba.prog 5 #[.agg #[.int .u8 1, .string d, .slice none 0 0, .bool false, .pointer none, .pointer none, .bool false, .int .i64 s, .int .i64 e], .string d, .int .i64 s, .int .i64 e] w fun e w' => e = .returned (.bool true) ∧ Below w.heap.size w w' := by
  have hs := fun (w : World) => Lib.run_eql_slice_nil (P := Yba.prog) w 28 _ none 0 0 0 0 Yba.underlying28
  go_enter Yba.func5, Yba.ntmps5
  go_wp2
  go_ret
  exact ⟨rfl, (Below.refl _ _).alloc (Nat.le_refl _) _⟩

/-- 'bytes.Equal(a, b)' of two slices that hold the same bytes: true. -/
theorem equal_any (va vb : Value) (s : ByteArray) (w : World) (ha : (convert 24 9 va).run Yba.prog w = .ok (.string s) w) (hb : (convert 24 9 vb).run Yba.prog w = .ok (.string s) w) :
    Calls Yba.prog 6 #[va, vb] w fun e w' => e = .returned (.bool true) ∧ w' = w := by
  go_enter Yba.func6, Yba.ntmps6
  go_wp2
  go_ret
  exact ⟨rfl, rfl⟩
end Go.Proofs.Ybulkexpzq
