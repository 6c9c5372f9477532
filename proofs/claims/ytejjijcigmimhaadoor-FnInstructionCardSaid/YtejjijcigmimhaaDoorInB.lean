/- MakeInstruction, walked at each form of widths that the program's table has: it makes one new block, the op and the operands' bytes. -/
import Derived.Test.YtejjijcigmimhaaDoorInA
namespace Go.Proofs.YtejjijcigmimhaaDoor.fnInst
open Go.RowKit Go.Proofs.YtejjijcigmimhaaDoorW.PrintWords Go.Proofs.YtejjijcigmimhaaDoorW.PrintLast Go.Proofs.YtejjijcigmimhaaDoorW.PrintMore
set_option linter.unusedSimpArgs false
set_option linter.unusedVariables false

set_option maxRecDepth 100000 in
set_option maxHeartbeats 1000000 in
theorem make13_0 (n : Nat) (hn : n < 42) (a : Addr) (A : Option Addr) (c cx : Nat) (w : World) (h0 : w.cell? ⟨0, n, none⟩ = some (.slice (some a) 0 c)) :
    Calls Tryd.prog 13 #[.int .u8 n, .slice A 0 cx] w fun e w' => e = .returned (.slice (some ⟨w.heap.size, 0, none⟩) 1 1) ∧ w' = w.alloc (.cells #[.int .u8 n] 5) := by
  have hmk : ∀ W : World, (Instr.makeSlice 24 (.int .i64 1) (.int .i64 1)).run Tryd.prog W = .ok (.slice (some ⟨W.heap.size, 0, none⟩) 1 1) (W.alloc (.cells #[.int .u8 0] 5)) := fun _ => by kernel_rfl
  go_enter Tryd.func13, Tryd.ntmps13
  go_wp2
  refine wp_loop_rounds 1 ?_
  rw [rounds_succ]; go_wp2
  refine wp_loop_rounds 1 ?_
  rw [rounds_succ]; go_wp2
  go_ret
  exact ⟨rfl, rfl⟩

set_option maxRecDepth 100000 in
set_option maxHeartbeats 1000000 in
theorem make13_1 (n : Nat) (hn : n < 42) (b o b1 o1 c cx : Nat) (x : Int) (w : World) (h0 : w.cell? ⟨0, n, none⟩ = some (.slice (some ⟨b, o, none⟩) 1 c)) (ha0 : w.cell? ⟨b, o, none⟩ = some (.int .i64 1)) (hx0 : w.cell? ⟨b1, o1, none⟩ = some (.int .i64 x)) (x0 : 0 ≤ x) (x1 : x < 256) (hb : b < w.heap.size) (hb1 : b1 < w.heap.size) :
    Calls Tryd.prog 13 #[.int .u8 n, .slice (some ⟨b1, o1, none⟩) 1 cx] w fun e w' => e = .returned (.slice (some ⟨w.heap.size, 0, none⟩) 2 2) ∧ w' = w.alloc (.cells #[.int .u8 n, .int .u8 x] 5) := by
  have hmk : ∀ W : World, (Instr.makeSlice 24 (.int .i64 2) (.int .i64 2)).run Tryd.prog W = .ok (.slice (some ⟨W.heap.size, 0, none⟩) 2 2) (W.alloc (.cells #[.int .u8 0, .int .u8 0] 5)) := fun _ => by kernel_rfl
  go_enter Tryd.func13, Tryd.ntmps13
  go_wp2
  refine wp_loop_rounds 2 ?_
  rw [rounds_succ]; go_wp2
  rw [rounds_succ]; go_wp2
  refine wp_loop_rounds 2 ?_
  rw [rounds_succ]; go_wp2
  rw [rounds_succ]; go_wp2
  go_ret
  exact ⟨rfl, rfl⟩

set_option maxRecDepth 100000 in
set_option maxHeartbeats 1000000 in
theorem make13_2 (n : Nat) (hn : n < 42) (b o b1 o1 c cx : Nat) (x : Int) (w : World) (h0 : w.cell? ⟨0, n, none⟩ = some (.slice (some ⟨b, o, none⟩) 1 c)) (ha0 : w.cell? ⟨b, o, none⟩ = some (.int .i64 2)) (hx0 : w.cell? ⟨b1, o1, none⟩ = some (.int .i64 x)) (x0 : 0 ≤ x) (x1 : x < 65536) (hb : b < w.heap.size) (hb1 : b1 < w.heap.size) :
    Calls Tryd.prog 13 #[.int .u8 n, .slice (some ⟨b1, o1, none⟩) 1 cx] w fun e w' => e = .returned (.slice (some ⟨w.heap.size, 0, none⟩) 3 3) ∧ w' = w.alloc (.cells #[.int .u8 n, .int .u8 (x / 256), .int .u8 (x % 256)] 5) := by
  have hmk : ∀ W : World, (Instr.makeSlice 24 (.int .i64 3) (.int .i64 3)).run Tryd.prog W = .ok (.slice (some ⟨W.heap.size, 0, none⟩) 3 3) (W.alloc (.cells #[.int .u8 0, .int .u8 0, .int .u8 0] 5)) := fun _ => by kernel_rfl
  go_enter Tryd.func13, Tryd.ntmps13
  go_wp2
  refine wp_loop_rounds 2 ?_
  rw [rounds_succ]; go_wp2
  rw [rounds_succ]; go_wp2
  refine wp_loop_rounds 2 ?_
  rw [rounds_succ]; go_wp2
  rw [rounds_succ]; go_wp2
  go_ret
  exact ⟨rfl, rfl⟩

set_option maxRecDepth 100000 in
set_option maxHeartbeats 1000000 in
theorem make13_4 (n : Nat) (hn : n < 42) (b o b1 o1 c cx : Nat) (x : Int) (w : World) (h0 : w.cell? ⟨0, n, none⟩ = some (.slice (some ⟨b, o, none⟩) 1 c)) (ha0 : w.cell? ⟨b, o, none⟩ = some (.int .i64 4)) (hx0 : w.cell? ⟨b1, o1, none⟩ = some (.int .i64 x)) (x0 : 0 ≤ x) (x1 : x < 4294967296) (hb : b < w.heap.size) (hb1 : b1 < w.heap.size) :
    Calls Tryd.prog 13 #[.int .u8 n, .slice (some ⟨b1, o1, none⟩) 1 cx] w fun e w' => e = .returned (.slice (some ⟨w.heap.size, 0, none⟩) 5 5) ∧ w' = w.alloc (.cells #[.int .u8 n, .int .u8 (x / 16777216), .int .u8 (x / 65536 % 256), .int .u8 (x / 256 % 256), .int .u8 (x % 256)] 5) := by
  have hmk : ∀ W : World, (Instr.makeSlice 24 (.int .i64 5) (.int .i64 5)).run Tryd.prog W = .ok (.slice (some ⟨W.heap.size, 0, none⟩) 5 5) (W.alloc (.cells #[.int .u8 0, .int .u8 0, .int .u8 0, .int .u8 0, .int .u8 0] 5)) := fun _ => by kernel_rfl
  go_enter Tryd.func13, Tryd.ntmps13
  go_wp2
  refine wp_loop_rounds 2 ?_
  rw [rounds_succ]; go_wp2
  rw [rounds_succ]; go_wp2
  refine wp_loop_rounds 2 ?_
  rw [rounds_succ]; go_wp2
  rw [rounds_succ]; go_wp2
  go_ret
  exact ⟨rfl, rfl⟩

set_option maxRecDepth 100000 in
set_option maxHeartbeats 1000000 in
theorem make13_1_1 (n : Nat) (hn : n < 42) (b o b1 o1 c cx : Nat) (x y : Int) (w : World) (h0 : w.cell? ⟨0, n, none⟩ = some (.slice (some ⟨b, o, none⟩) 2 c)) (ha0 : w.cell? ⟨b, o, none⟩ = some (.int .i64 1)) (hx0 : w.cell? ⟨b1, o1, none⟩ = some (.int .i64 x)) (ha1 : w.cell? ⟨b, o + 1, none⟩ = some (.int .i64 1)) (hx1 : w.cell? ⟨b1, o1 + 1, none⟩ = some (.int .i64 y)) (x0 : 0 ≤ x) (x1 : x < 256) (y0 : 0 ≤ y) (y1 : y < 256) (hb : b < w.heap.size) (hb1 : b1 < w.heap.size) :
    Calls Tryd.prog 13 #[.int .u8 n, .slice (some ⟨b1, o1, none⟩) 2 cx] w fun e w' => e = .returned (.slice (some ⟨w.heap.size, 0, none⟩) 3 3) ∧ w' = w.alloc (.cells #[.int .u8 n, .int .u8 x, .int .u8 y] 5) := by
  have hmk : ∀ W : World, (Instr.makeSlice 24 (.int .i64 3) (.int .i64 3)).run Tryd.prog W = .ok (.slice (some ⟨W.heap.size, 0, none⟩) 3 3) (W.alloc (.cells #[.int .u8 0, .int .u8 0, .int .u8 0] 5)) := fun _ => by kernel_rfl
  go_enter Tryd.func13, Tryd.ntmps13
  go_wp2
  refine wp_loop_rounds 3 ?_
  rw [rounds_succ]; go_wp2
  rw [rounds_succ]; go_wp2
  rw [rounds_succ]; go_wp2
  refine wp_loop_rounds 3 ?_
  rw [rounds_succ]; go_wp2
  rw [rounds_succ]; go_wp2
  rw [rounds_succ]; go_wp2
  go_ret
  exact ⟨rfl, rfl⟩

set_option maxRecDepth 100000 in
set_option maxHeartbeats 1000000 in
theorem make13_2_1 (n : Nat) (hn : n < 42) (b o b1 o1 c cx : Nat) (x y : Int) (w : World) (h0 : w.cell? ⟨0, n, none⟩ = some (.slice (some ⟨b, o, none⟩) 2 c)) (ha0 : w.cell? ⟨b, o, none⟩ = some (.int .i64 2)) (hx0 : w.cell? ⟨b1, o1, none⟩ = some (.int .i64 x)) (ha1 : w.cell? ⟨b, o + 1, none⟩ = some (.int .i64 1)) (hx1 : w.cell? ⟨b1, o1 + 1, none⟩ = some (.int .i64 y)) (x0 : 0 ≤ x) (x1 : x < 65536) (y0 : 0 ≤ y) (y1 : y < 256) (hb : b < w.heap.size) (hb1 : b1 < w.heap.size) :
    Calls Tryd.prog 13 #[.int .u8 n, .slice (some ⟨b1, o1, none⟩) 2 cx] w fun e w' => e = .returned (.slice (some ⟨w.heap.size, 0, none⟩) 4 4) ∧ w' = w.alloc (.cells #[.int .u8 n, .int .u8 (x / 256), .int .u8 (x % 256), .int .u8 y] 5) := by
  have hmk : ∀ W : World, (Instr.makeSlice 24 (.int .i64 4) (.int .i64 4)).run Tryd.prog W = .ok (.slice (some ⟨W.heap.size, 0, none⟩) 4 4) (W.alloc (.cells #[.int .u8 0, .int .u8 0, .int .u8 0, .int .u8 0] 5)) := fun _ => by kernel_rfl
  go_enter Tryd.func13, Tryd.ntmps13
  go_wp2
  refine wp_loop_rounds 3 ?_
  rw [rounds_succ]; go_wp2
  rw [rounds_succ]; go_wp2
  rw [rounds_succ]; go_wp2
  refine wp_loop_rounds 3 ?_
  rw [rounds_succ]; go_wp2
  rw [rounds_succ]; go_wp2
  rw [rounds_succ]; go_wp2
  go_ret
  exact ⟨rfl, rfl⟩

end Go.Proofs.YtejjijcigmimhaaDoor.fnInst
