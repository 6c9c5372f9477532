/- What both laws' rows want: a listed array's cells, a listed variable behind the call. -/
import Derived.Test.YtejjijcigmimhaaDoorRows
import Derived.WalkKit
import Derived.ProofKit
import Derived.OpenShut
import Derived.Carry
import Derived.Lib.Hide
import Derived.Lib.LaidTab
import Derived.Lib.LaidU8
import Derived.LaidMore
import Derived.Deep.DeepHandedRow
import Derived.Deep.DeepWitnessRowRef
namespace Go.Proofs.YtejjijcigmimhaaDoor.base
open Go.ChangeShapes Go.WideShapes Go.ChangeAt Go.RowKit
set_option linter.unusedSimpArgs false
set_option linter.unusedVariables false

theorem own : ownKnob Tryd.prog.godebug = none := by kernel_rfl
theorem laidOut : laidOutB Tryd.prog = true := by kernel_rfl

section
variable {H : Type} {enc : TypeId × Value → H} {P : Program}

theorem var?_below {B g : Nat} {W W' : World} {n : String} {cs : Array Value} (h : Below B W W') (hg : P.globalNamed n = some g) (hgB : g < B) (hv : W.var? P n = some cs) : W'.var? P n = some cs := by
  unfold World.var? at hv ⊢
  simp only [hg, Option.bind_some] at hv ⊢
  rw [h.block g hgB]
  exact hv

/-- A variable of a type of the table reads behind the call as it read before it, if below the heap's old size nothing has turned. -/
theorem var_carry {W W' : World} {n : String} {g : Nat} {t : TypeId} {gs : List (DataW H)} {q : List MemPlace} (hl : laidOutB P = true) (hr : P.readableRec t = true) (hrow : t < P.types.size)
    (hg : P.globalNamed n = some g) (hty : (P.globals[g]?).map (·.type) = some t) (hgB : g < W.heap.size) (hb : Below W.heap.size W W')
    (hV : DataW.TrodVars enc P W (fun _ => true) [n] gs q) (hlt : ∀ x ∈ q, x.block < W.heap.size) :
    DataW.TrodVars enc P W' (fun b => decide (b < W.heap.size)) [n] gs q := by
  obtain ⟨g', t', cs, fuel, d, p', rfl, hg', ht', hvar, hd, rfl⟩ := trodVars_one hV
  obtain rfl := Option.some.inj (hg.symm.trans hg')
  obtain rfl := Option.some.inj (hty.symm.trans ht')
  have hp : ∀ x ∈ p', x.block < W.heap.size := fun x hx => hlt x (List.mem_append_right _ hx)
  exact trodVars_mk1 hg hty (var?_below hb hg hgB hvar)
    (DataW.trod_stays (kids_book hl hr) (book_sized hr) (fun h => by cases h) ⟨hrow, book_self t⟩ hd (fun x hx => hb.same (hp x hx)) (fun x hx => by simpa using hp x hx))

/-- An array of elements of one cell each: the cells, one by one, each with its reading. -/
theorem open_array {w : World} {b : Nat} {sp : Nat → Bool} {held : Bool} {fuel : Nat} {t e : TypeId} {n : Nat} {cs : List Value} {ds : List (DataW H)} {p : List MemPlace}
    (ht : P.underlying t = some (.array n e)) (hce : P.cellsOf e = 1) (hct : P.cellsOf t = n)
    (h : DataW.trod enc P w b sp held fuel t cs = some (.agg ds, p)) :
    cs.length = n ∧ ∀ (i : Nat) d, ds[i]? = some d → ∃ v m q, cs[i]? = some v ∧ DataW.trod enc P w b sp held m e [v] = some (d, q) := by
  cases fuel with
  | zero => simp [DataW.trod] at h
  | succ fuel =>
    simp only [DataW.trod, ht, hce, hct, Nat.mul_one] at h
    split at h
    · rename_i hl
      refine ⟨hl, ?_⟩
      obtain ⟨xs, hm, hx⟩ := Option.map_eq_some_iff.1 h
      have hxs : xs.map (·.1) = ds := by
        have := congrArg Prod.fst hx
        simpa using this
      subst hxs
      intro i d hd
      rw [List.getElem?_map] at hd
      obtain ⟨y, hy, rfl⟩ := Option.map_eq_some_iff.1 hd
      have hxl : xs.length = n := by simpa using Lib.mapM_length hm
      have hi : i < n := by rw [← hxl]; exact (List.getElem?_eq_some_iff.1 hy).1
      obtain ⟨y', hy', hf⟩ := Lib.mapM_at hm i i (by simp [hi])
      obtain rfl := Option.some.inj (hy.symm.trans hy')
      obtain ⟨v, hv⟩ : ∃ v, cs[i]? = some v := ⟨cs[i]'(by omega), List.getElem?_eq_getElem (by omega)⟩
      refine ⟨v, fuel, y.2, hv, ?_⟩
      have e1 : (cs.drop i).take 1 = [v] := by
        have hi' : i < cs.length := by omega
        rw [List.drop_eq_getElem_cons hi']
        rw [List.getElem?_eq_getElem hi'] at hv
        simp [Option.some.inj hv]
      rw [e1] at hf
      exact hf
    · cases h
end
end Go.Proofs.YtejjijcigmimhaaDoor.base
