/- FnPrecedence: for every number of an operator the law answers true: the row and its tied card. Conditions: the package-level tables start as the program's text lays them (the card ties them to that text). -/
import Derived.Test.YtejjijcigmimhaaDoorBase
import Derived.Test.YtejjijcigmimhaaDoorCards
import Derived.Test.YtejjijcigmimhaaDoorTie
import Derived.Test.YtejjijcigmimhaaDoorPrE
namespace Go.Proofs.YtejjijcigmimhaaDoor.fnPrec
open Go.ChangeShapes Go.WideShapes Go.ChangeAt Go.RowKit
set_option linter.unusedSimpArgs false
set_option linter.unusedVariables false

theorem gTok : Tryd.prog.globalNamed "loop.example/pub-g03329/pub/tengo/token.tokens" = some 1 := by kernel_rfl
theorem gTokType : (Tryd.prog.globals[1]?).map (·.type) = some 44 := by kernel_rfl
theorem cells44 : Tryd.prog.cellsOf 44 = 75 := by kernel_rfl
theorem cells9 : Tryd.prog.cellsOf 9 = 1 := by kernel_rfl
theorem laidTok {H : Type} : Rows.laid_loop_example_pub_g03329_pub_tengo_token_tokens (H := H) = .agg (toks.map fun s => .lit (.string s)) := rfl

/-- WHAT THE ROW's LIST GIVES: the table's cells. -/
theorem table {W : World} (h : laidMetH Tryd.prog Rows.fnPrecedenceRow.laid W) : Table W := by
  have h' : laidMet Tryd.prog Rows.fnPrecedenceRow.laid W := h
  obtain ⟨g, t, cs, fuel, p, hg, ht, hv, hd⟩ := Lib.laidMet.reads h' (n := "loop.example/pub-g03329/pub/tengo/token.tokens") (d := Rows.laid_loop_example_pub_g03329_pub_tengo_token_tokens) (by simp [Rows.fnPrecedenceRow])
  obtain rfl := Option.some.inj (gTok.symm.trans hg)
  obtain rfl := Option.some.inj (gTokType.symm.trans ht)
  rw [laidTok] at hd
  obtain ⟨hl, hel⟩ := base.open_array Tryd.underlying44 cells9 cells44 hd
  intro k hk
  have hk' : k < toks.length := hk
  obtain ⟨v, m, q, hc, hr⟩ := hel k (.lit (.string (toks.getD k []))) (by simp [hk', List.getD])
  obtain ⟨s, hs, hx, _⟩ := DataW.trod_string Tryd.underlying9 hr
  obtain rfl := List.singleton_inj.1 hs
  have hx' : toks.getD k [] = s.data.toList := by
    have := congrArg Prod.fst hx
    simpa using this
  rw [World.var?_cell hg hv k, hx']
  simpa using hc

/-- WHAT THE WALKS GIVE, FOR EVERY ARGUMENT AND EVERY WORLD THAT HOLDS THE TABLES. -/
theorem contract (H : Type) (enc : TypeId × Value → H) (W : World) (bs : Nat) (args : Array Value) (ds gs : List (DataW H)) (before : List MemPlace)
    (hval : ∀ (j : Nat) t v, Tryd.f4.params[j]? = some t → args[j]? = some v → Value.okWide Tryd.prog W .any bs t v)
    (hW : DataW.Whole enc Tryd.prog Tryd.f4.params.toList Rows.fnPrecedenceSpec.vars false W args.toList ds gs before) (hL : laidMetH Tryd.prog Rows.fnPrecedenceRow.laid W) :
    Calls Tryd.prog 4 args W fun e W' => ∃ v, e = .returned v ∧ Rows.fnPrecedenceSpec.post enc Tryd.prog Tryd.f4 false true false false W args v W' := by
  have hW' := hW
  obtain ⟨p, q, hA0, hV, rfl, hfz, hnd⟩ := hW
  have hA : DataW.TrodAll enc Tryd.prog W 0 (fun _ => true) true Tryd.f4.params.toList args.toList ds p := hA0
  rw [Tryd.params4] at hA hval
  obtain ⟨v0, vs0, d0, ds0, p0, q0, hargs, rfl, rfl, h0, r0⟩ := trodAll_cons hA
  obtain ⟨rfl, rfl, rfl⟩ := trodAll_nil r0
  obtain rfl : args = #[v0] := by cases args; simp_all
  obtain ⟨z, rfl, rfl, rfl, wz⟩ := open_int Tryd.underlying3 (hval 0 3 v0 rfl rfl) h0
  clear hA0
  have hT := table hL
  have hlt : ∀ x ∈ q, x.block < W.heap.size := fun x hx => hW'.lt x (List.mem_append_right _ hx)
  have h1 : 1 < W.heap.size := World.block_lt_of_cell? _ _ (hT 0 (by decide))
  have walk : Calls Tryd.prog 4 #[.int .i64 z] W fun e w' => e = .returned (.bool true) ∧ Below W.heap.size W w' := by
    by_cases hz : z < 0 ∨ 19 ≤ z
    · exact walkOutside z hz W
    · obtain ⟨n, rfl⟩ := Int.eq_ofNat_of_zero_le (show 0 ≤ z by omega)
      exact walkInside n (by omega) W h1 hT
  obtain ⟨g1, rfl⟩ : ∃ g1, gs = [g1] := by
    obtain ⟨_, _, _, _, d, _, h, _⟩ := trodVars_one hV
    exact ⟨d, h⟩
  refine walk.mono fun e W' ⟨he, hb⟩ => ?_
  subst he
  have e1 : Rows.fnPrecedenceSpec.fn H ([.lit (.int .i64 z)] ++ [g1]) = { results := [.lit (.bool true)], args := [.lit (.int .i64 z)], vars := [g1] } := rfl
  refine ⟨_, rfl, _, _, _, [], [], q, hW', ?_, ?_, ?_, hb.frame _, fun h => by cases h⟩
  · rw [e1]; exact trodAll_mk1 (shut_bool Tryd.underlying4 true)
  · rw [e1]; exact trodAll_mk1 (shut_int Tryd.underlying3 wz)
  · rw [e1]; exact base.var_carry base.laidOut (by kernel_rfl) (of_decide_eq_true (by kernel_rfl)) gTok gTokType h1 hb hV hlt

end Go.Proofs.YtejjijcigmimhaaDoor.fnPrec
