/- The law's own walk. -/
import Derived.Test.YtejjijcigmimhaaDoorPrD
namespace Go.Proofs.YtejjijcigmimhaaDoor.fnPrec
open Go.RowKit
set_option linter.unusedSimpArgs false
set_option linter.unusedVariables false

theorem Table.below {B : Nat} {w w' : World} (h : Table w) (hb : Below B w w') (hB : 1 < B) : Table w' := fun k hk => (hb.cell hB).trans (h k hk)

theorem walkOutside (z : Int) (h : z < 0 ∨ 19 ≤ z) (w : World) :
    Calls Tryd.prog 4 #[.int .i64 z] w fun e w' => e = .returned (.bool true) ∧ Below w.heap.size w w' := by
  rcases h with h | h
  · have hd : decide (z < 0) = true := by simp; omega
    go_enter Tryd.func4, Tryd.ntmps4
    go_wp2
    go_ret
    exact ⟨rfl, (Below.refl _ _).alloc (Nat.le_refl _) _⟩
  · have hd : decide (z < 0) = false := by simp; omega
    have hd2 : decide (19 ≤ z) = true := by simp; omega
    go_enter Tryd.func4, Tryd.ntmps4
    go_wp2
    go_ret
    exact ⟨rfl, (Below.refl _ _).alloc (Nat.le_refl _) _⟩

set_option maxHeartbeats 400000 in
theorem walkInside (n : Nat) (hn : n < 19) (w : World) (hw : 1 < w.heap.size) (hT : Table w) :
    Calls Tryd.prog 4 #[.int .i64 n] w fun e w' => e = .returned (.bool true) ∧ Below w.heap.size w w' := by
  have HT := Lib.hid hT
  clear hT
  go_enter Tryd.func4, Tryd.ntmps4
  go_wp2_with fail
  go_loopw [4, 5] (fun f i wr => ∃ k : Nat, k ≤ 71 ∧ i = .int .i64 k ∧ f = .int .i64 (cnt n k) ∧ Below w.heap.size w wr ∧ w.heap.size < wr.heap.size ∧ wr.cell? ⟨w.heap.size, n, none⟩ = some (.string (op n))) (fun _ i _ => 71 - (intOf i).toNat)
  case atStart => exact ⟨0, by omega, rfl, rfl, (Below.refl _ _).alloc (Nat.le_refl _) _, by simp, alloc_cells w _ rfl ops 9 (0, 0) n _ (ops_at n hn)⟩
  case round =>
    obtain ⟨k, hk, rfl, rfl, hb, hz, hcell⟩ := hrel
    have hcl := cnt_le n k
    by_cases hlt : k < 71
    · have HT' := Lib.hid (HT.out.below hb hw)
      have HB := Lib.hid hb
      clear HT hb
      have hbind : (prec k != rank (text k)) = false := by simp [binds_rank k hlt]
      cases hcmp : ((text k).toList == (op n).toList) with
      | true =>
        have HS : Hid (cnt n (k + 1) = cnt n k + 1) := by show cnt n (k + 1) = cnt n k + 1; simp only [cnt, hcmp, if_true]
        go_wp2_with fail
        refine (text9 k hlt _ HT'.out).mono ?_
        rintro e w' ⟨rfl, rfl⟩
        go_wp2_with (first | (go_at_call 10; refine (prec10 _ _).mono ?_; rintro e w' ⟨rfl, rfl⟩) | (go_at_call 11; refine (rank11 _ _).mono ?_; rintro e w2 ⟨rfl, hb2⟩))
        go_roundw
        case rel => exact ⟨k + 1, by omega, by go_num, by rw [HS.out]; go_num, HB.out.trans (hb2.mono (by omega)), Nat.lt_of_lt_of_le hz hb2.size, (hb2.cell (p := ⟨w.heap.size, n, none⟩) hz).trans hcell⟩
        case measure => simp [intOf]; omega
      | false =>
        have HS : Hid (cnt n (k + 1) = cnt n k) := by show cnt n (k + 1) = cnt n k; simp only [cnt, hcmp, Bool.false_eq_true, if_false, Nat.add_zero]
        go_wp2_with fail
        refine (text9 k hlt _ HT'.out).mono ?_
        rintro e w' ⟨rfl, rfl⟩
        go_wp2_with (first | (go_at_call 10; refine (prec10 _ _).mono ?_; rintro e w' ⟨rfl, rfl⟩) | (go_at_call 11; refine (rank11 _ _).mono ?_; rintro e w2 ⟨rfl, hb2⟩))
        go_roundw
        case rel => exact ⟨k + 1, by omega, by go_num, by rw [HS.out], HB.out.trans (hb2.mono (by omega)), Nat.lt_of_lt_of_le hz hb2.size, (hb2.cell (p := ⟨w.heap.size, n, none⟩) hz).trans hcell⟩
        case measure => simp [intOf]; omega
    · have hk2 : k = 71 := by omega
      have h1 := cnt_once n hn
      rw [← hk2] at h1
      have H1 := Lib.hid h1
      clear h1 hk2
      go_wp2_with fail
      go_ret
      exact ⟨congrArg (fun z => Ending.returned (.bool z)) (by rw [H1.out]; rfl), hb⟩

end Go.Proofs.YtejjijcigmimhaaDoor.fnPrec
