/- The widths of the operands, as the program's table has them; the walks of slices.Clone and Operands. -/
import Derived.Test.YtejjijcigmimhaaDoorPFnInstructionx2
import Derived.Lib.Hide
import Derived.WalkSpells
import Derived.WalkLawsBesides
namespace Go.Proofs.YtejjijcigmimhaaDoor.fnInst
open Go.RowKit Go.Proofs.YtejjijcigmimhaaDoorW.PrintWords Go.Proofs.YtejjijcigmimhaaDoorW.PrintLast Go.Proofs.YtejjijcigmimhaaDoorW.PrintMore
set_option linter.unusedSimpArgs false
set_option linter.unusedVariables false

def allWs : List (List Int) := [[2], [], [], [], [], [], [], [], [], [4], [4], [4], [4], [], [2], [2], [], [], [], [], [1, 1], [1], [2], [2], [2, 1], [1], [1], [1], [1, 1], [1], [1], [1], [1], [1, 1], [1], [2, 1], [], [], [], [], [1], []]
def ws (n : Nat) : List Int := allWs.getD n []

/-- The table of the program: each cell a slice that reads as these widths. -/
def Tab (w : World) : Prop := ∀ n, n < 42 → ∃ a c, w.cell? ⟨0, n, none⟩ = some (.slice (some a) (ws n).length c) ∧ (ws n).length ≤ c ∧ (Kd.int .i64).C w (some a) (ws n).length (ws n)

theorem Tab.below {w w' : World} (h : Tab w) (hb : Below w.heap.size w w') : Tab w' := fun n hn => by
  obtain ⟨a, c, h1, h2, h3⟩ := h n hn
  exact ⟨a, c, pw_cell_below hb h1, h2, Kd.C_below h3 hb⟩

theorem ws_len (n : Nat) (hn : n < 42) : (ws n).length ≤ 2 := by
  revert n; decide

set_option maxHeartbeats 400000 in
theorem clone12 (a : Addr) (c : Nat) (l : List Int) (w : World) (hl : l.length ≤ 2) (hc : (Kd.int .i64).C w (some a) l.length l) :
    Calls Tryd.prog 12 #[.slice (some a) l.length c] w fun e w' => ∃ v, e = .returned v ∧ (Kd.int .i64).R 3 w' w.heap.size (fun _ => True) v l ∧ Below w.heap.size w w' := by
  have HC := Lib.hid hc
  clear hc
  have he : ∀ W : World, (binOp .eql 22 (.slice (some a) l.length c) (.slice none 0 0)).run Tryd.prog W = .ok (.bool false) W := fun W => Lib.run_eql_slice_nil W 22 3 (some a) _ c 0 0 Tryd.underlying22
  go_enter Tryd.func12, Tryd.ntmps12
  go_wp2_with (at_builtin; refine print_append_row (w0 := w) w.heap.size rfl _ _ 22 3 .i64 8 rfl Tryd.underlying22 PFnInstruction.info3 (by decide) _ [] l (some a) l.length c rfl rfl ?c1 ?c2 ?c3 ?c4 ?c5 (fun v1 w1 hown hb hg hat => ?_))
  case c1 => exact own_lit w w.heap.size 3 .i64 [] (Nat.le_refl _) (by simp)
  case c2 => exact Kd.reads_of_C (enc := Value.int .i64) (d := (0 : Int)) (h1 := fun _ => rfl) (Kd.C_alloc HC.out _)
  case c3 => exact below_alloc (Below.refl _ _) _
  case c4 => simp
  case c5 => simp; omega
  go_ret
  exact ⟨_, rfl, Kd.R_of_own hown (fun _ _ => trivial), hb⟩

set_option maxHeartbeats 400000 in
theorem operands5 (n : Nat) (hn : n < 42) (w : World) (hT : Tab w) :
    Calls Tryd.prog 5 #[.int .i64 n] w fun e w' => ∃ v, e = .returned v ∧ (Kd.int .i64).R 3 w' w.heap.size (fun _ => True) v (ws n) ∧ Below w.heap.size w w' := by
  obtain ⟨a, c, h1, h2, h3⟩ := hT n hn
  have hl := ws_len n hn
  have HT := Lib.hid hT
  have H3 := Lib.hid h3
  clear hT h3
  go_enter Tryd.func5, Tryd.ntmps5
  go_wp2_with (go_at_call 12; refine (clone12 a c (ws n) _ hl H3.out).mono ?_; rintro e w' ⟨v, rfl, hr, hb⟩)
  go_ret
  exact ⟨_, rfl, hr, hb⟩

theorem operands5_none (z : Int) (hz : z < 0 ∨ 42 ≤ z) (w : World) :
    Calls Tryd.prog 5 #[.int .i64 z] w fun e w' => e = .returned (.slice none 0 0) ∧ w = w' := by
  rcases hz with h | h
  · have hd : decide (z < 0) = true := by simp; omega
    go_enter Tryd.func5, Tryd.ntmps5
    go_wp2
    go_ret
    exact ⟨rfl, rfl⟩
  · have hd : decide (z < 0) = false := by simp; omega
    have hd2 : decide (42 ≤ z) = true := by simp; omega
    go_enter Tryd.func5, Tryd.ntmps5
    go_wp2
    go_ret
    exact ⟨rfl, rfl⟩

end Go.Proofs.YtejjijcigmimhaaDoor.fnInst
