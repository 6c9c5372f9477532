/- FnInstruction: the law's walk where nothing is asked of the op. -/
import Derived.Test.YtejjijcigmimhaaDoorInE
namespace Go.Proofs.YtejjijcigmimhaaDoor.fnInst
open Go.RowKit Go.Proofs.YtejjijcigmimhaaDoorW.PrintWords Go.Proofs.YtejjijcigmimhaaDoorW.PrintLast Go.Proofs.YtejjijcigmimhaaDoorW.PrintMore
open Go.Proofs.YtejjijcigmimhaaDoor.PFnInstruction
set_option linter.unusedSimpArgs false
set_option linter.unusedVariables false

/-- Too many operands. -/
theorem walkLong (z : Int) (A : Option Addr) (m c : Nat) (w : World) (hm : 2147483647 < m) :
    Calls Tryd.prog 3 #[.int .i64 z, .slice A m c] w fun e w' => e = .returned (.bool true) ∧ Below w.heap.size w w' := by
  have hd : decide ((2147483647 : Int) < m) = true := by simp; omega
  go_enter Tryd.func3, Tryd.ntmps3
  go_wp2_with fail
  go_ret
  exact ⟨rfl, Below.refl _ _⟩

/-- No op of the table. -/
theorem walkNone (z : Int) (A : Option Addr) (m c : Nat) (w : World) (hm : m ≤ 2147483647) (hz : z < 0 ∨ 60 < z) :
    Calls Tryd.prog 3 #[.int .i64 z, .slice A m c] w fun e w' => e = .returned (.bool true) ∧ Below w.heap.size w w' := by
  have hd : decide ((2147483647 : Int) < m) = false := by simp; omega
  have H := Lib.hid (operands5_none z (by omega) w)
  rcases hz with hz | hz
  · have h1 : decide (z < 0) = true := by simp; omega
    go_enter Tryd.func3, Tryd.ntmps3
    go_wp2_with fail
    refine (H.out).mono ?_
    rintro e w1 ⟨rfl, rfl⟩
    go_wp2_with fail
    go_ret
    exact ⟨rfl, Below.refl _ _⟩
  · have h1 : decide (z < 0) = false := by simp; omega
    have h2 : decide (60 < z) = true := by simp; omega
    go_enter Tryd.func3, Tryd.ntmps3
    go_wp2_with fail
    refine (H.out).mono ?_
    rintro e w1 ⟨rfl, rfl⟩
    go_wp2_with fail
    go_ret
    exact ⟨rfl, Below.refl _ _⟩

/-- An op of the table, but not as many operands as it has. -/
theorem walkPart (n : Nat) (hn : n < 42) (A : Option Addr) (m c : Nat) (w : World) (hm : m ≤ 2147483647) (hT : Tab w) (hlen : m ≠ (ws n).length) :
    Calls Tryd.prog 3 #[.int .i64 n, .slice A m c] w fun e w' => e = .returned (.bool true) ∧ Below w.heap.size w w' := by
  have hd : decide ((2147483647 : Int) < m) = false := by simp; omega
  have hne : (((ws n).length : Int) != (m : Int)) = true := by simp; omega
  have hne' : ((ws n).length != m) = true := by simp; omega
  have HT := Lib.hid hT
  clear hT hlen
  go_enter Tryd.func3, Tryd.ntmps3
  go_wp2_with fail
  refine (operands5 n hn _ HT.out).mono ?_
  rintro e w1 ⟨v, rfl, hr, hb⟩
  obtain ⟨A', c', rfl, hc', hCw⟩ := Kd.R_reads hr
  clear hr hCw
  go_wp2_with fail
  go_ret
  exact ⟨rfl, hb⟩

/-- An op between the table's end and 60, operands given. -/
theorem walkMore (z : Int) (A : Option Addr) (m c : Nat) (w : World) (hm : m ≤ 2147483647) (hz : 42 ≤ z) (hz2 : z ≤ 60) (hp : 0 < m) :
    Calls Tryd.prog 3 #[.int .i64 z, .slice A m c] w fun e w' => e = .returned (.bool true) ∧ Below w.heap.size w w' := by
  have hd : decide ((2147483647 : Int) < m) = false := by simp; omega
  have H := Lib.hid (operands5_none z (by omega) w)
  have hne : ((0 : Int) != (m : Int)) = true := by simp; omega
  have hne' : (0 != m) = true := by simp; omega
  go_enter Tryd.func3, Tryd.ntmps3
  go_wp2_with fail
  refine (H.out).mono ?_
  rintro e w1 ⟨rfl, rfl⟩
  go_wp2_with fail
  go_ret
  exact ⟨rfl, Below.refl _ _⟩

/-- An op between the table's end and 60, no operands: Make makes nothing. -/
theorem walkBare (z : Int) (A : Option Addr) (c : Nat) (w : World) (hz : 42 ≤ z) (hz2 : z ≤ 60) :
    Calls Tryd.prog 3 #[.int .i64 z, .slice A 0 c] w fun e w' => e = .returned (.bool true) ∧ Below w.heap.size w w' := by
  have H := Lib.hid (operands5_none z (by omega) w)
  have HM := Lib.hid (make6_none z (by omega) A 0 c w)
  go_enter Tryd.func3, Tryd.ntmps3
  go_wp2_with fail
  refine (H.out).mono ?_
  rintro e w1 ⟨rfl, rfl⟩
  go_wp2_with fail
  refine wp_loop_rounds 1 ?_
  rw [rounds_succ]; go_wp2_with fail
  refine (HM.out).mono ?_
  rintro e w1 ⟨rfl, rfl⟩
  go_wp2_with fail
  go_ret
  exact ⟨congrArg (fun b => Ending.returned (.bool b)) (show decide (41 < z) = true by simp; omega), Below.refl _ _⟩

/-- THE LAW'S WALK, for every op and every operands. -/
theorem walk (z : Int) (A : Option Addr) (c : Nat) (xs : List Int) (w : World) (hT : Tab w) (hC : (Kd.int .i64).C w A xs.length xs) :
    Calls Tryd.prog 3 #[.int .i64 z, .slice A xs.length c] w fun e w' => e = .returned (.bool true) ∧ Below w.heap.size w w' := by
  by_cases hm : 2147483647 < xs.length
  · exact walkLong z A _ c w hm
  · by_cases hz : z < 0 ∨ 60 < z
    · exact walkNone z A _ c w (by omega) hz
    · by_cases hz2 : 42 ≤ z
      · by_cases hp : 0 < xs.length
        · exact walkMore z A _ c w (by omega) hz2 (by omega) hp
        · have e : xs.length = 0 := by omega
          rw [e]
          exact walkBare z A c w hz2 (by omega)
      · obtain ⟨n, rfl⟩ := Int.eq_ofNat_of_zero_le (show 0 ≤ z by omega)
        by_cases hlen : xs.length = (ws n).length
        · exact walkTrue n (by omega) A c xs w hT hC hlen
        · exact walkPart n (by omega) A _ c w (by omega) hT hlen

end Go.Proofs.YtejjijcigmimhaaDoor.fnInst
