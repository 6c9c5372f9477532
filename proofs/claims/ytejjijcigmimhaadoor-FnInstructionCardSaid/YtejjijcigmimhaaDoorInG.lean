/- FnInstruction: for every op and operands the law answers true: what the row's list and its arguments give the walk. -/
import Derived.Test.YtejjijcigmimhaaDoorBase
import Derived.Test.YtejjijcigmimhaaDoorCards
import Derived.Test.YtejjijcigmimhaaDoorTie
import Derived.Test.YtejjijcigmimhaaDoorInF
namespace Go.Proofs.YtejjijcigmimhaaDoor.fnInst
open Go.ChangeShapes Go.WideShapes Go.ChangeAt Go.RowKit Go.Proofs.YtejjijcigmimhaaDoorW.PrintWords
set_option linter.unusedSimpArgs false
set_option linter.unusedVariables false

theorem gOps : Tryd.prog.globalNamed "loop.example/pub-g03329/pub/tengo/parser.OpcodeOperands" = some 0 := by kernel_rfl
theorem gOpsType : (Tryd.prog.globals[0]?).map (·.type) = some 36 := by kernel_rfl
theorem cells36 : Tryd.prog.cellsOf 36 = 42 := by kernel_rfl
theorem cells22 : Tryd.prog.cellsOf 22 = 1 := by kernel_rfl
theorem cells3 : Tryd.prog.cellsOf 3 = 1 := by kernel_rfl
theorem laidOps {H : Type} : Rows.laid_loop_example_pub_g03329_pub_tengo_parser_OpcodeOperands (H := H) = .agg (allWs.map fun l => .slice (l.map fun z => .lit (.int .i64 z)) []) := rfl

/-- WHAT THE ROW's LIST GIVES: the table. -/
theorem table {W : World} (h : laidMetH Tryd.prog Rows.fnInstructionRow.laid W) : Tab W := by
  have h' : laidMet Tryd.prog Rows.fnInstructionRow.laid W := h
  obtain ⟨g, t, cs, fuel, p, hg, ht, hv, hd⟩ := Lib.laidMet.reads h' (n := "loop.example/pub-g03329/pub/tengo/parser.OpcodeOperands") (d := Rows.laid_loop_example_pub_g03329_pub_tengo_parser_OpcodeOperands) (by simp [Rows.fnInstructionRow])
  obtain rfl := Option.some.inj (gOps.symm.trans hg)
  obtain rfl := Option.some.inj (gOpsType.symm.trans ht)
  rw [laidOps] at hd
  obtain ⟨hl, hel⟩ := base.open_array Tryd.underlying36 cells22 cells36 hd
  intro n hn
  have hn' : n < allWs.length := hn
  obtain ⟨v, m, q, hc, hr⟩ := hel n (.slice ((ws n).map fun z => .lit (.int .i64 z)) []) (by simp [hn', ws, List.getD])
  obtain ⟨a, cap, hcs, hcap, hcells⟩ := open_row Tryd.underlying22 cells3 hr
  obtain rfl := List.singleton_inj.1 hcs
  rw [List.length_map] at hcap hc
  refine ⟨a, cap, ?_, hcap, Kd.C_of_reads (enc := Value.int .i64) (d := (0 : Int)) (h1 := fun _ => rfl) ⟨rfl, by have := ws_len n hn; omega, fun _ => ⟨a, rfl, fun j hj => ?_⟩⟩⟩
  · rw [World.var?_cell hg hv n]
    simpa using hc
  · obtain ⟨u, m', q', hu, hru⟩ := hcells j (.lit (.int .i64 ((ws n).getD j 0))) (by simp [List.getD, hj])
    obtain ⟨z, hz, hx, _⟩ := DataW.trod_int Tryd.underlying3 hru
    obtain rfl := List.singleton_inj.1 hz
    simp only [Prod.mk.injEq, DataW.lit.injEq, Lit.int.injEq, true_and] at hx
    rw [hu, hx.1]

section
variable {H : Type} {enc : TypeId × Value → H}
/-- WHAT AN ARGUMENT []int GIVES: it reads as a list. -/
theorem opened {W : World} {v : Value} {d : DataW H} {p : List MemPlace} {bs : Nat} (hv : Value.okWide Tryd.prog W .any bs 22 v) (h : DataW.Trod enc Tryd.prog W 0 (fun _ => true) true 22 v d p) :
    ∃ (A : Option Addr) (c : Nat) (xs : List Int), v = .slice A xs.length c ∧ (Kd.int .i64).C W A xs.length xs := by
  obtain ⟨a0, len, cap, rfl⟩ := okWide_slice Tryd.underlying22 hv
  obtain ⟨fuel, hf⟩ := h
  rcases open_ints Tryd.underlying22 Tryd.underlying3 cells3 hf with ⟨hcs, hx⟩ | ⟨a, len', cap', zs, hcs, _, hl, hm, hz, hx, hcell, hwz⟩
  · simp [Value.cells] at hcs
    obtain ⟨rfl, rfl, rfl⟩ := hcs
    exact ⟨none, 0, [], rfl, Kd.C_nil _ _⟩
  · simp [Value.cells] at hcs
    obtain ⟨rfl, rfl, rfl⟩ := hcs
    simp only [if_true] at hz
    have hlen : (zs.take len).length = len := by simp; omega
    refine ⟨some a, cap, zs.take len, by rw [hlen], Kd.C_of_reads (enc := Value.int .i64) (d := (0 : Int)) (h1 := fun _ => rfl) ⟨rfl, by unfold maxLen at hm; omega, fun _ => ⟨a, rfl, fun j hj => ?_⟩⟩⟩
    rw [hlen] at hj
    rw [hcell j (by omega)]
    simp [List.getD, List.getElem?_take, hj]
end

/-- WHAT THE WALKS GIVE, FOR ALL ARGUMENTS AND EVERY WORLD THAT HOLDS THE TABLE. -/
theorem contract (H : Type) (enc : TypeId × Value → H) (W : World) (bs : Nat) (args : Array Value) (ds gs : List (DataW H)) (before : List MemPlace)
    (hval : ∀ (j : Nat) t v, Tryd.f3.params[j]? = some t → args[j]? = some v → Value.okWide Tryd.prog W .any bs t v)
    (hW : DataW.Whole enc Tryd.prog Tryd.f3.params.toList Rows.fnInstructionSpec.vars false W args.toList ds gs before) (hL : laidMetH Tryd.prog Rows.fnInstructionRow.laid W) :
    Calls Tryd.prog 3 args W fun e W' => ∃ v, e = .returned v ∧ Rows.fnInstructionSpec.post enc Tryd.prog Tryd.f3 false true false false W args v W' := by
  have hW' := hW
  obtain ⟨p, q, hA0, hV, rfl, hfz, hnd⟩ := hW
  have hA : DataW.TrodAll enc Tryd.prog W 0 (fun _ => true) true Tryd.f3.params.toList args.toList ds p := hA0
  rw [Tryd.params3] at hA hval
  obtain ⟨v0, v1, d0, d1, p0, p1, rfl, rfl, rfl, h0, h1⟩ := trodAll_two hA
  obtain ⟨z, rfl, rfl, rfl, wz⟩ := open_int Tryd.underlying3 (hval 0 3 v0 rfl rfl) h0
  obtain ⟨A, c, xs, rfl, hC⟩ := opened (hval 1 22 v1 rfl rfl) h1
  clear hA0
  have hT := table hL
  have hltA : ∀ x ∈ p1, x.block < W.heap.size := fun x hx => hW'.lt x (List.mem_append_left _ (List.mem_append_right _ hx))
  have hlt : ∀ x ∈ q, x.block < W.heap.size := fun x hx => hW'.lt x (List.mem_append_right _ hx)
  have hs : 0 < W.heap.size := by
    obtain ⟨a, c', hc', _⟩ := hT 0 (by decide)
    exact World.block_lt_of_cell? _ _ hc'
  obtain ⟨g1, rfl⟩ : ∃ g1, gs = [g1] := by
    obtain ⟨_, _, _, _, d, _, h, _⟩ := trodVars_one hV
    exact ⟨d, h⟩
  refine (walk z A c xs W hT hC).mono fun e W' ⟨he, hb⟩ => ?_
  subst he
  have e1 : Rows.fnInstructionSpec.fn H ([.lit (.int .i64 z), d1] ++ [g1]) = { results := [.lit (.bool true)], args := [.lit (.int .i64 z), d1], vars := [g1] } := rfl
  refine ⟨_, rfl, _, _, _, [], [] ++ p1, q, hW', ?_, ?_, ?_, hb.frame _, fun h => by cases h⟩
  · rw [e1]; exact trodAll_mk1 (shut_bool Tryd.underlying4 true)
  · rw [e1]; exact trodAll_mk2 (shut_int Tryd.underlying3 wz) (Below.trod base.laidOut (by kernel_rfl) (of_decide_eq_true (by kernel_rfl)) h1 hb hltA)
  · rw [e1]; exact base.var_carry base.laidOut (by kernel_rfl) (of_decide_eq_true (by kernel_rfl)) gOps gOpsType hs hb hV hlt

end Go.Proofs.YtejjijcigmimhaaDoor.fnInst
