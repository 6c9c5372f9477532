/- The ranks of the reference, by a text. -/
import Derived.Test.YtejjijcigmimhaaDoorPrA
namespace Go.Proofs.YtejjijcigmimhaaDoor.fnPrec
open Go.RowKit
set_option linter.unusedSimpArgs false
set_option linter.unusedVariables false

def L5 : List ByteArray := [⟨#[42]⟩, ⟨#[47]⟩, ⟨#[37]⟩, ⟨#[60, 60]⟩, ⟨#[62, 62]⟩, ⟨#[38]⟩, ⟨#[38, 94]⟩]
def L4 : List ByteArray := [⟨#[43]⟩, ⟨#[45]⟩, ⟨#[124]⟩, ⟨#[94]⟩]
def L3 : List ByteArray := [⟨#[61, 61]⟩, ⟨#[33, 61]⟩, ⟨#[60]⟩, ⟨#[60, 61]⟩, ⟨#[62]⟩, ⟨#[62, 61]⟩]

def rank (s : ByteArray) : Int :=
  if among s L5 = true then 5 else if among s L4 = true then 4 else if among s L3 = true then 3
  else if (s.toList == [38, 38]) = true then 2 else if (s.toList == [124, 124]) = true then 1 else 0

theorem alloc_cells (w : World) (N : Nat) (hN : N = w.heap.size) (l : List ByteArray) (t : TypeId) (fr : Nat × Nat) (j : Nat) (x : ByteArray) (h : l[j]? = some x) :
    (w.alloc (.cells (l.map Value.string).toArray t fr)).cell? ⟨N, j, none⟩ = some (.string x) := by
  subst hN
  rw [World.cell?_alloc_mark]
  simp [h]

set_option maxHeartbeats 400000 in
theorem rank17 (s : ByteArray) (w : World) :
    Calls Tryd.prog 17 #[.string s] w fun e w' => e = .returned (.int .i64 (rank s)) ∧ Below w.heap.size w w' := by
  go_enter Tryd.func17, Tryd.ntmps17
  go_wp2_with fail
  refine (among19 s _ _ L5 _ (by decide) (fun j x hx => alloc_cells _ _ rfl L5 _ _ j x hx)).mono ?_
  rintro e w' ⟨rfl, rfl⟩
  go_wp2_with fail
  · go_ret
    exact ⟨ret_int (by simp only [rank, *, if_true, if_false, Bool.false_eq_true]), (Below.refl _ _).alloc (Nat.le_refl _) _⟩
  refine (among19 s _ _ L4 _ (by decide) (fun j x hx => alloc_cells _ _ (by simp) L4 _ _ j x hx)).mono ?_
  rintro e w' ⟨rfl, rfl⟩
  go_wp2_with fail
  · go_ret
    exact ⟨ret_int (by simp only [rank, *, if_true, if_false, Bool.false_eq_true]), ((Below.refl _ _).alloc (Nat.le_refl _) _).alloc (by simp) _⟩
  refine (among19 s _ _ L3 _ (by decide) (fun j x hx => alloc_cells _ _ (by simp) L3 _ _ j x hx)).mono ?_
  rintro e w' ⟨rfl, rfl⟩
  go_wp2_with fail
  all_goals go_ret
  all_goals exact ⟨ret_int (by simp only [rank, *, if_true, if_false, Bool.false_eq_true]), (((Below.refl _ _).alloc (Nat.le_refl _) _).alloc (by simp) _).alloc (by simp; omega) _⟩

theorem rank11 (s : ByteArray) (w : World) :
    Calls Tryd.prog 11 #[.string s] w fun e w' => e = .returned (.int .i64 (rank s)) ∧ Below w.heap.size w w' := by
  go_enter Tryd.func11, Tryd.ntmps11
  go_wp2_with (go_at_call 17; refine (rank17 _ _).mono ?_; rintro e w' ⟨rfl, hb⟩)
  go_ret
  exact ⟨rfl, hb⟩

end Go.Proofs.YtejjijcigmimhaaDoor.fnPrec
