/- FnInstruction: for every op and operands the law answers true, and its arguments read as they read before: the row and its tied card. Conditions: the package-level table that the row lists starts as the program's text lays it (the card ties it to that text, of the pruned copy). -/
import Derived.Test.YtejjijcigmimhaaDoorInG
import Derived.Deep.DeepLaidBlocks
namespace Go.Proofs.YtejjijcigmimhaaDoor.fnInst
open Go.ChangeShapes Go.WideShapes Go.ChangeAt Go.RowKit
set_option linter.unusedSimpArgs false
set_option linter.unusedVariables false

/-- A WORLD FOR THE WITNESS: the heap that the door's own run leaves. -/
noncomputable def start (os : Os) : World := World.doorLaid Tryd.prog 76 os
theorem laid_met (os : Os) : laidMet Tryd.prog Rows.fnInstructionRow.laid ((start os).forCall (fun _ _ => 0) ⟨#[], #[.int .i64 0, .slice none 0 0], []⟩).memory :=
  laidMet_of_run3 8 (by kernel_rfl) (by kernel_rfl) (by kernel_rfl)
theorem reads (os : Os) {H : Type} (enc : TypeId × Value → H) : ∃ places, DataW.whole enc Tryd.prog ((start os).forCall (fun _ _ => 0) ⟨#[], #[.int .i64 0, .slice none 0 0], []⟩).memory Tryd.f3.params.toList Rows.fnInstructionSpec.vars false #[Value.int .i64 0, Value.slice none 0 0].toList 8 = some ([.lit (.int .i64 0), .nil], [Rows.laid_loop_example_pub_g03329_pub_tengo_parser_OpcodeOperands], places) := by
  have h : (DataW.whole enc Tryd.prog ((start os).forCall (fun _ _ => 0) ⟨#[], #[.int .i64 0, .slice none 0 0], []⟩).memory Tryd.f3.params.toList Rows.fnInstructionSpec.vars false #[Value.int .i64 0, Value.slice none 0 0].toList 8).map (fun x => (x.1, x.2.1)) = some ([.lit (.int .i64 0), .nil], [Rows.laid_loop_example_pub_g03329_pub_tengo_parser_OpcodeOperands]) := by kernel_rfl
  obtain ⟨⟨a, b, c⟩, hx, he⟩ := Option.map_eq_some_iff.1 h
  simp only [Prod.mk.injEq] at he
  obtain ⟨rfl, rfl⟩ := he
  exact ⟨c, hx⟩

set_option maxRecDepth 100000 in
theorem lifted (os : Os) (started : os.Started) (H : Type) (enc : TypeId × Value → H) (F : Stop.Interp) :
    ReturnsInHanded {} Tryd.checked os 3 .any ((OpenSpec.ofChange Rows.fnInstructionSpec).preRow enc Tryd.prog Tryd.f3 Rows.fnInstructionRow.domain false Rows.fnInstructionRow.laid) (((OpenSpec.ofChange Rows.fnInstructionSpec).at F).post enc Tryd.prog Tryd.f3 false true false false) := by
  obtain ⟨places, hx⟩ := reads os enc
  refine returnsInHanded_of_row (C := Tryd.checked) (s := OpenSpec.ofChange Rows.fnInstructionSpec) base.own started (by kernel_rfl) Tryd.func3
    (witness_row_atRef (enc := enc) (C := Tryd.checked) false (start os) #[.int .i64 0, .slice none 0 0] rfl (by kernel_rfl) (by kernel_rfl) (by kernel_rfl)
      (OpenSpec.preRow_of_cond 8 hx (by kernel_rfl) (fun k hk => by cases hk) (by kernel_rfl) (laid_met os))) ?_
  intro W bs args ds gs before hval hW _ _ _ hL _ _
  exact contract H enc W bs args ds gs before hval hW hL

theorem said : Rows.FnInstructionSaid :=
  OpenClaim.holds_of_cond 3 Tryd.f3 rfl rfl rfl rfl rfl rfl rfl ⟨rfl, rfl, rfl, rfl, rfl⟩ rfl rfl rfl rfl rfl (by kernel_rfl) Tryd.func3 (by kernel_rfl)
    (of_decide_eq_true (by kernel_rfl)) (by unfold Func.isWrapper; first | (rw [if_pos (by decide +kernel)]; kernel_rfl) | (rw [if_neg (by decide +kernel)]; exact ⟨rfl, rfl⟩))
    (fun os started H enc _ F => by rw [OpenClaim.pre_eq_preRow]; exact lifted os started H enc F)

/-- No parameter wants a stand-in; the program's own looks are off: what the card asks. -/
theorem plain (f : FuncId) (fn : Func) (hf : Tryd.pinned.checked.prog.funcNamed "loop.example/pub-g03329/laws.FnInstruction" = some f) (hfn : Tryd.pinned.checked.prog.funcs[f]? = some fn) :
    false = Tryd.pinned.checked.prog.looks [] ∧ ∀ (j : Nat) t, fn.params[j]? = some t → Tryd.pinned.checked.prog.wantsStandIn t = false := by
  obtain rfl : f = 3 := Option.some.inj ((show Tryd.prog.funcNamed "loop.example/pub-g03329/laws.FnInstruction" = some 3 by kernel_rfl).symm.trans hf) |>.symm
  obtain rfl : fn = Tryd.f3 := (Option.some.inj (Tryd.func3.symm.trans hfn)).symm
  refine ⟨by kernel_rfl, fun j t ht => ?_⟩
  rw [Tryd.params3] at ht
  have h : t = 3 ∨ t = 22 := by simpa using Array.mem_of_getElem? ht
  rcases h with rfl | rfl
  · exact (show Tryd.prog.wantsStandIn 3 = false by kernel_rfl)
  · exact (show Tryd.prog.wantsStandIn 22 = false by kernel_rfl)

/-- ████ THE CARD ████ -/
theorem card : Rows.FnInstructionCardSaid :=
  Claim7.holds_tied_plain_at .later [] _ _ _ _ said (fun _ h => by cases h) (by kernel_rfl) (fun _ h => by cases h) fnInstruction_row_tie rfl ⟨rfl, rfl⟩ (by kernel_rfl) rfl plain (by kernel_rfl)
#print axioms card
end Go.Proofs.YtejjijcigmimhaaDoor.fnInst
