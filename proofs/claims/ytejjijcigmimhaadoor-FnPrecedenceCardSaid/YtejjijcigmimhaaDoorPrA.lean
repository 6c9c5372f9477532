/- The walks of FnPrecedence's callees that compute alone. -/
import Derived.Test.YtejjijcigmimhaaDoorRows
import Derived.WalkKit
import Derived.WalkSpells
import Derived.WalkLawsBesides
import Derived.Lib.Hide
namespace Go.Proofs.YtejjijcigmimhaaDoor.fnPrec
open Go.RowKit
set_option linter.unusedSimpArgs false
set_option linter.unusedVariables false

def prec (k : Int) : Int :=
  if k = 34 then 1 else if k = 33 then 2
  else if k = 37 ∨ k = 42 ∨ k = 38 ∨ k = 43 ∨ k = 39 ∨ k = 44 then 3
  else if k = 11 ∨ k = 12 ∨ k = 17 ∨ k = 18 then 4
  else if k = 13 ∨ k = 14 ∨ k = 15 ∨ k = 19 ∨ k = 20 ∨ k = 16 ∨ k = 21 then 5 else 0

theorem ret_int {k : IntKind} {a b : Int} (h : a = b) : Ending.returned (.int k a) = .returned (.int k b) := by rw [h]

set_option maxHeartbeats 400000 in
theorem prec16 (k : Int) (w : World) :
    Calls Tryd.prog 16 #[.int .i64 k] w fun e w' => e = .returned (.int .i64 (prec k)) ∧ w' = w := by
  go_enter Tryd.func16, Tryd.ntmps16
  go_wp2
  all_goals go_ret
  all_goals refine ⟨ret_int ?_, rfl⟩
  all_goals simp only [beq_iff_eq, beq_eq_false_iff_ne, ne_eq] at *
  all_goals simp [prec, *]

theorem prec10 (k : Int) (w : World) :
    Calls Tryd.prog 10 #[.int .i64 k] w fun e w' => e = .returned (.int .i64 (prec k)) ∧ w' = w := by
  go_enter Tryd.func10, Tryd.ntmps10
  go_wp2_with (go_at_call 16; refine (prec16 _ _).mono ?_; rintro e w' ⟨rfl, rfl⟩)
  go_ret
  exact ⟨rfl, rfl⟩

def among (s : ByteArray) : List ByteArray → Bool
  | [] => false
  | x :: r => (x.toList == s.toList) || among s r

set_option maxHeartbeats 400000 in
theorem among19 (s : ByteArray) (b cap : Nat) (l : List ByteArray) (w : World) (hl : l.length ≤ 100)
    (hc : ∀ j x, l[j]? = some x → w.cell? ⟨b, j, none⟩ = some (.string x)) :
    Calls Tryd.prog 19 #[.string s, .slice (some ⟨b, 0, none⟩) l.length cap] w fun e w' => e = .returned (.bool (among s l)) ∧ w' = w := by
  have HC := Lib.hid hc
  clear hc
  go_enter Tryd.func19, Tryd.ntmps19
  go_wp2
  go_loop [5] (fun i => ∃ k : Nat, k ≤ l.length ∧ i = .int .i64 k ∧ among s l = among s (l.drop k)) (fun i => l.length - (intOf i).toNat)
  case atStart => exact ⟨0, Nat.zero_le _, rfl, rfl⟩
  case round =>
    obtain ⟨k, hk, rfl, he⟩ := hrel
    have HE := Lib.hid he
    clear he
    by_cases hlt : k < l.length
    · have hcell := HC.out k l[k] (by simp [hlt])
      have HD := Lib.hid (List.drop_eq_getElem_cons hlt)
      go_wp2
      · rename_i heq _
        go_ret
        exact ⟨congrArg (fun z => Ending.returned (.bool z)) (by rw [HE.out, HD.out]; simp [among, heq]), rfl⟩
      · go_round
        case rel => exact ⟨k + 1, by omega, by go_num, by rw [HE.out, HD.out]; simp [among, *]⟩
        case measure => simp [intOf]; omega
    · go_wp2
      go_ret
      exact ⟨congrArg (fun z => Ending.returned (.bool z)) (by rw [HE.out, List.drop_eq_nil_of_le (by omega)]; rfl), rfl⟩

end Go.Proofs.YtejjijcigmimhaaDoor.fnPrec
