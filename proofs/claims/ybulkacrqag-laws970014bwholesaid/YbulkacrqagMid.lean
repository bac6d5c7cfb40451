/-
  Seat b970014a: onward behind the law's own reckoning, in its three ways.
-/
import Derived.Test.YbulkacrqagSt
namespace Go.Proofs.Ybulkacrqag
open Go.RowKit
section
variable {B : Nat} {w0 w : World} {b10 bn bl be bt bf n t : Nat} {tb td tu tn : Int} {Bf Df U N : Nat → Int} {x y : Int}

theorem mid_eq (now size : Int) (h : St B w0 w b10 bn bl be bt bf n t tb td tu tn Bf Df U N U N x y x (adv now y size (rate tb))) :
    Mid B w0 b10 bn bl be bt bf n t t tb td tu tn Bf Df now size (wrap64 (adv now y size (rate tb) + td)) 0 w := by
  have c : ∀ o, w.cell? ⟨bt, o, none⟩ = (linkC (rate tb) td (1 + (t : Int)) x y)[o]? := fun o => block_cell h.tl o
  refine (onward_eq (some ⟨bn, 0, none⟩) bt t now size (rate tb) td y w (c 0) (c 1) (c 2) (c 4) (block_frozen h.tl) (rate_ne tb)).mono ?_
  rintro e w' ⟨rfl, rfl⟩
  exact ⟨rfl, U, N, x, _, (h.setTl _).kept ((Kept.refl _ _).drew.drew)⟩

theorem mid_up (now size : Int) (a : Nat) (hat : a < t) (htn : t ≤ n) (hn : n ≤ 1048576) (h : St B w0 w b10 bn bl be bt bf n t tb td tu tn Bf Df U N (upd U a (adv now (U a) size (rate (Bf a)))) N x y x y) :
    Mid B w0 b10 bn bl be bt bf n t a tb td tu tn Bf Df now size (wrap64 (adv now (U a) size (rate (Bf a)) + Df a)) (1 + (a : Int) + 1) w := by
  have han : a < n := by omega
  have c : ∀ o, w.cell? ⟨bt, o, none⟩ = (linkC (rate tb) td (1 + (t : Int)) x y)[o]? := fun o => block_cell h.tl o
  have cn : w.cell? ⟨bn, 2, none⟩ = some (.slice (some ⟨bl, 0, none⟩) n n) := block_cell h.net 2
  have d := fun (o : Nat) (ho : o < 5) => h.chCell han o ho
  refine (onward_up bn bt bl n a t now size (rate (Bf a)) (Df a) (U a) w (c 2) hat han hn cn (d 0 (by omega)) (d 1 (by omega)) (d 3 (by omega)) (block_frozen h.chn) (rate_ne _)).mono ?_
  rintro e w' ⟨rfl, rfl⟩
  exact ⟨rfl, _, N, x, y, (h.setChU a han _).kept ((Kept.refl _ _).drew.drew)⟩

theorem mid_down (now size : Int) (j : Nat) (htj : t < j + 1) (hjn : j < n) (hn : n ≤ 1048576) (h : St B w0 w b10 bn bl be bt bf n t tb td tu tn Bf Df U N U (upd N j (adv now (N j) size (rate (Bf j)))) x y x y) :
    Mid B w0 b10 bn bl be bt bf n t (j + 1) tb td tu tn Bf Df now size (wrap64 (adv now (N j) size (rate (Bf j)) + Df j)) (1 + ((j : Int) + 1) - 1) w := by
  have c : ∀ o, w.cell? ⟨bt, o, none⟩ = (linkC (rate tb) td (1 + (t : Int)) x y)[o]? := fun o => block_cell h.tl o
  have cn : w.cell? ⟨bn, 2, none⟩ = some (.slice (some ⟨bl, 0, none⟩) n n) := block_cell h.net 2
  have d := fun (o : Nat) (ho : o < 5) => h.chCell hjn o ho
  have hc := onward_down bn bt bl n j t now size (rate (Bf j)) (Df j) (N j) w (c 2) htj hjn hn cn (d 0 (by omega)) (d 1 (by omega)) (d 4 (by omega)) (block_frozen h.chn) (rate_ne _)
  unfold Mid
  rw [show (((j + 1 : Nat)) : Int) = (j : Int) + 1 by omega]
  refine hc.mono ?_
  rintro e w' ⟨rfl, rfl⟩
  exact ⟨rfl, U, _, x, y, (h.setChN j hjn _).kept ((Kept.refl _ _).drew.drew)⟩
end
end Go.Proofs.Ybulkacrqag
