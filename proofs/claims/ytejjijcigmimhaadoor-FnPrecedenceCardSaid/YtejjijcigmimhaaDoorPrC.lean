/- The texts of the tokens. -/
import Derived.Test.YtejjijcigmimhaaDoorPrB
namespace Go.Proofs.YtejjijcigmimhaaDoor.fnPrec
open Go.RowKit
set_option linter.unusedSimpArgs false
set_option linter.unusedVariables false

def toks : List (List UInt8) := [[73, 76, 76, 69, 71, 65, 76], [69, 79, 70], [67, 79, 77, 77, 69, 78, 84], [], [73, 68, 69, 78, 84], [73, 78, 84], [70, 76, 79, 65, 84], [67, 72, 65, 82], [83, 84, 82, 73, 78, 71], [], [], [43], [45], [42], [47], [37], [38], [124], [94], [60, 60], [62, 62], [38, 94], [43, 61], [45, 61], [42, 61], [47, 61], [37, 61], [38, 61], [124, 61], [94, 61], [60, 60, 61], [62, 62, 61], [38, 94, 61], [38, 38], [124, 124], [43, 43], [45, 45], [61, 61], [60], [62], [61], [33], [33, 61], [60, 61], [62, 61], [58, 61], [46, 46, 46], [40], [91], [123], [44], [46], [41], [93], [125], [59], [58], [63], [], [], [98, 114, 101, 97, 107], [99, 111, 110, 116, 105, 110, 117, 101], [101, 108, 115, 101], [102, 111, 114], [102, 117, 110, 99], [101, 114, 114, 111, 114], [105, 109, 109, 117, 116, 97, 98, 108, 101], [105, 102], [114, 101, 116, 117, 114, 110], [101, 120, 112, 111, 114, 116], [116, 114, 117, 101], [102, 97, 108, 115, 101], [105, 110], [117, 110, 100, 101, 102, 105, 110, 101, 100], [105, 109, 112, 111, 114, 116]]
def str (l : List UInt8) : ByteArray := ⟨l.toArray⟩

theorem small22_3 (w : World) :
    Calls Tryd.prog 22 #[.int .i64 3] w fun e w' => e = .returned (.string ⟨#[51]⟩) ∧ w' = w := by
  go_enter Tryd.func22, Tryd.ntmps22
  go_wp2
  go_ret
  exact ⟨rfl, rfl⟩

theorem small22_9 (w : World) :
    Calls Tryd.prog 22 #[.int .i64 9] w fun e w' => e = .returned (.string ⟨#[57]⟩) ∧ w' = w := by
  go_enter Tryd.func22, Tryd.ntmps22
  go_wp2
  go_ret
  exact ⟨rfl, rfl⟩

set_option maxRecDepth 100000 in
set_option maxHeartbeats 400000 in
theorem small22_10 (w : World) :
    Calls Tryd.prog 22 #[.int .i64 10] w fun e w' => e = .returned (.string ⟨#[49, 48]⟩) ∧ w' = w := by
  have hs : ∀ W : World, (Instr.slice 9 (.string ⟨((([48, 48, 48, 49, 48, 50, 48, 51, 48, 52, 48, 53, 48, 54, 48, 55, 48, 56, 48, 57, 49, 48, 49, 49, 49, 50, 49, 51, 49, 52, 49, 53, 49, 54, 49, 55, 49, 56, 49, 57, 50, 48, 50, 49, 50, 50, 50, 51, 50, 52] : List UInt8).append [50, 53, 50, 54, 50, 55, 50, 56, 50, 57, 51, 48, 51, 49, 51, 50, 51, 51, 51, 52, 51, 53, 51, 54, 51, 55, 51, 56, 51, 57, 52, 48, 52, 49, 52, 50, 52, 51, 52, 52, 52, 53, 52, 54, 52, 55, 52, 56, 52, 57]).append (([53, 48, 53, 49, 53, 50, 53, 51, 53, 52, 53, 53, 53, 54, 53, 55, 53, 56, 53, 57, 54, 48, 54, 49, 54, 50, 54, 51, 54, 52, 54, 53, 54, 54, 54, 55, 54, 56, 54, 57, 55, 48, 55, 49, 55, 50, 55, 51, 55, 52] : List UInt8).append [55, 53, 55, 54, 55, 55, 55, 56, 55, 57, 56, 48, 56, 49, 56, 50, 56, 51, 56, 52, 56, 53, 56, 54, 56, 55, 56, 56, 56, 57, 57, 48, 57, 49, 57, 50, 57, 51, 57, 52, 57, 53, 57, 54, 57, 55, 57, 56, 57, 57])).toArray⟩) (some (.int .i64 20)) (some (.int .i64 22)) none).run Tryd.prog W = .ok (.string ⟨#[49, 48]⟩) W := fun _ => by kernel_rfl
  go_enter Tryd.func22, Tryd.ntmps22
  go_wp2
  go_ret
  exact ⟨rfl, rfl⟩

set_option maxRecDepth 100000 in
set_option maxHeartbeats 400000 in
theorem small22_58 (w : World) :
    Calls Tryd.prog 22 #[.int .i64 58] w fun e w' => e = .returned (.string ⟨#[53, 56]⟩) ∧ w' = w := by
  have hs : ∀ W : World, (Instr.slice 9 (.string ⟨((([48, 48, 48, 49, 48, 50, 48, 51, 48, 52, 48, 53, 48, 54, 48, 55, 48, 56, 48, 57, 49, 48, 49, 49, 49, 50, 49, 51, 49, 52, 49, 53, 49, 54, 49, 55, 49, 56, 49, 57, 50, 48, 50, 49, 50, 50, 50, 51, 50, 52] : List UInt8).append [50, 53, 50, 54, 50, 55, 50, 56, 50, 57, 51, 48, 51, 49, 51, 50, 51, 51, 51, 52, 51, 53, 51, 54, 51, 55, 51, 56, 51, 57, 52, 48, 52, 49, 52, 50, 52, 51, 52, 52, 52, 53, 52, 54, 52, 55, 52, 56, 52, 57]).append (([53, 48, 53, 49, 53, 50, 53, 51, 53, 52, 53, 53, 53, 54, 53, 55, 53, 56, 53, 57, 54, 48, 54, 49, 54, 50, 54, 51, 54, 52, 54, 53, 54, 54, 54, 55, 54, 56, 54, 57, 55, 48, 55, 49, 55, 50, 55, 51, 55, 52] : List UInt8).append [55, 53, 55, 54, 55, 55, 55, 56, 55, 57, 56, 48, 56, 49, 56, 50, 56, 51, 56, 52, 56, 53, 56, 54, 56, 55, 56, 56, 56, 57, 57, 48, 57, 49, 57, 50, 57, 51, 57, 52, 57, 53, 57, 54, 57, 55, 57, 56, 57, 57])).toArray⟩) (some (.int .i64 116)) (some (.int .i64 118)) none).run Tryd.prog W = .ok (.string ⟨#[53, 56]⟩) W := fun _ => by kernel_rfl
  go_enter Tryd.func22, Tryd.ntmps22
  go_wp2
  go_ret
  exact ⟨rfl, rfl⟩

set_option maxRecDepth 100000 in
set_option maxHeartbeats 400000 in
theorem small22_59 (w : World) :
    Calls Tryd.prog 22 #[.int .i64 59] w fun e w' => e = .returned (.string ⟨#[53, 57]⟩) ∧ w' = w := by
  have hs : ∀ W : World, (Instr.slice 9 (.string ⟨((([48, 48, 48, 49, 48, 50, 48, 51, 48, 52, 48, 53, 48, 54, 48, 55, 48, 56, 48, 57, 49, 48, 49, 49, 49, 50, 49, 51, 49, 52, 49, 53, 49, 54, 49, 55, 49, 56, 49, 57, 50, 48, 50, 49, 50, 50, 50, 51, 50, 52] : List UInt8).append [50, 53, 50, 54, 50, 55, 50, 56, 50, 57, 51, 48, 51, 49, 51, 50, 51, 51, 51, 52, 51, 53, 51, 54, 51, 55, 51, 56, 51, 57, 52, 48, 52, 49, 52, 50, 52, 51, 52, 52, 52, 53, 52, 54, 52, 55, 52, 56, 52, 57]).append (([53, 48, 53, 49, 53, 50, 53, 51, 53, 52, 53, 53, 53, 54, 53, 55, 53, 56, 53, 57, 54, 48, 54, 49, 54, 50, 54, 51, 54, 52, 54, 53, 54, 54, 54, 55, 54, 56, 54, 57, 55, 48, 55, 49, 55, 50, 55, 51, 55, 52] : List UInt8).append [55, 53, 55, 54, 55, 55, 55, 56, 55, 57, 56, 48, 56, 49, 56, 50, 56, 51, 56, 52, 56, 53, 56, 54, 56, 55, 56, 56, 56, 57, 57, 48, 57, 49, 57, 50, 57, 51, 57, 52, 57, 53, 57, 54, 57, 55, 57, 56, 57, 57])).toArray⟩) (some (.int .i64 118)) (some (.int .i64 120)) none).run Tryd.prog W = .ok (.string ⟨#[53, 57]⟩) W := fun _ => by kernel_rfl
  go_enter Tryd.func22, Tryd.ntmps22
  go_wp2
  go_ret
  exact ⟨rfl, rfl⟩

theorem fmt21 (k : Int) (r : ByteArray) (h0 : 0 ≤ k) (h1 : k < 100) (w : World)
    (h : Calls Tryd.prog 22 #[.int .i64 k] w fun e w' => e = .returned (.string r) ∧ w' = w) :
    Calls Tryd.prog 21 #[.int .i64 k, .int .i64 10] w fun e w' => e = .returned (.string r) ∧ w' = w := by
  have H := Lib.hid h
  clear h
  go_enter Tryd.func21, Tryd.ntmps21
  go_wp2_with (go_at_call 22; refine (H.out).mono ?_; rintro e w' ⟨rfl, rfl⟩)
  go_ret
  exact ⟨rfl, rfl⟩

theorem itoa20 (k : Int) (r : ByteArray) (h0 : 0 ≤ k) (h1 : k < 100) (w : World)
    (h : Calls Tryd.prog 22 #[.int .i64 k] w fun e w' => e = .returned (.string r) ∧ w' = w) :
    Calls Tryd.prog 20 #[.int .i64 k] w fun e w' => e = .returned (.string r) ∧ w' = w := by
  have H := Lib.hid h
  clear h
  go_enter Tryd.func20, Tryd.ntmps20
  go_wp2_with (go_at_call 21; refine (fmt21 k r h0 h1 _ H.out).mono ?_; rintro e w' ⟨rfl, rfl⟩)
  go_ret
  exact ⟨rfl, rfl⟩

theorem itoa18 (k : Int) (r : ByteArray) (h0 : 0 ≤ k) (h1 : k < 100) (w : World)
    (h : Calls Tryd.prog 22 #[.int .i64 k] w fun e w' => e = .returned (.string r) ∧ w' = w) :
    Calls Tryd.prog 18 #[.int .i64 k] w fun e w' => e = .returned (.string r) ∧ w' = w := by
  have H := Lib.hid h
  clear h
  go_enter Tryd.func18, Tryd.ntmps18
  go_wp2_with (go_at_call 20; refine (itoa20 k r h0 h1 _ H.out).mono ?_; rintro e w' ⟨rfl, rfl⟩)
  go_ret
  exact ⟨rfl, rfl⟩

/-- A token that has a text. -/
theorem string15_text (k : Nat) (t : ByteArray) (h1 : k < 75) (w : World) (hc : w.cell? ⟨1, k, none⟩ = some (.string t)) (ht : t.toList.isEmpty = false) :
    Calls Tryd.prog 15 #[.int .i64 k] w fun e w' => e = .returned (.string t) ∧ w' = w := by
  go_enter Tryd.func15, Tryd.ntmps15
  go_wp2_with fail
  go_ret
  exact ⟨rfl, rfl⟩

/-- A token that has none: its number is told. -/
theorem string15_none (k : Nat) (r : ByteArray) (hr : r.size ≤ 2) (h1 : k < 75) (w : World) (hc : w.cell? ⟨1, k, none⟩ = some (.string ⟨#[]⟩))
    (h : Calls Tryd.prog 22 #[.int .i64 k] w fun e w' => e = .returned (.string r) ∧ w' = w) :
    Calls Tryd.prog 15 #[.int .i64 k] w fun e w' => e = .returned (.string (⟨#[116, 111, 107, 101, 110, 40]⟩ ++ r ++ ⟨#[41]⟩)) ∧ w' = w := by
  have H := Lib.hid h
  clear h
  have h2 : ¬ 9223372036854775807 < 6 + r.size := by omega
  have h3 : ¬ 9223372036854775807 < 6 + r.size + 1 := by omega
  go_enter Tryd.func15, Tryd.ntmps15
  go_wp2_with (go_at_call 18; refine (itoa18 k r (by omega) (by omega) _ H.out).mono ?_; rintro e w' ⟨rfl, rfl⟩)
  go_ret
  exact ⟨rfl, rfl⟩

def num (k : Nat) : ByteArray := if k < 10 then ⟨#[(48 + k).toUInt8]⟩ else ⟨#[(48 + k / 10).toUInt8, (48 + k % 10).toUInt8]⟩
/-- What a token's text is. -/
def text (k : Nat) : ByteArray :=
  if (toks.getD k []).isEmpty = true then ⟨#[116, 111, 107, 101, 110, 40]⟩ ++ num k ++ ⟨#[41]⟩ else ⟨(toks.getD k []).toArray⟩

theorem toks_empty : ∀ k, k < 71 → (toks.getD k []).isEmpty = true → k = 3 ∨ k = 9 ∨ k = 10 ∨ k = 58 ∨ k = 59 := by decide

/-- The table's cells. -/
def Table (w : World) : Prop := ∀ k, k < 75 → w.cell? ⟨1, k, none⟩ = some (.string ⟨(toks.getD k []).toArray⟩)

theorem text_some (k : Nat) (h : (toks.getD k []).isEmpty = false) : text k = ⟨(toks.getD k []).toArray⟩ := by
  unfold text; rw [h]; rfl

theorem toList_isEmpty (l : List UInt8) (h : l.isEmpty = false) : (⟨l.toArray⟩ : ByteArray).toList.isEmpty = false := by
  rw [ByteArray.toList_mk]; exact h

theorem string15 (k : Nat) (hk : k < 71) (w : World) (hc : Table w) :
    Calls Tryd.prog 15 #[.int .i64 k] w fun e w' => e = .returned (.string (text k)) ∧ w' = w := by
  cases he : (toks.getD k []).isEmpty with
  | false =>
    rw [text_some k he]
    exact string15_text k _ (by omega) w (hc k (by omega)) (toList_isEmpty _ he)
  | true =>
    rcases toks_empty k hk he with rfl | rfl | rfl | rfl | rfl
    · exact string15_none 3 ⟨#[51]⟩ (by decide) (by decide) w (hc 3 (by decide)) (small22_3 w)
    · exact string15_none 9 ⟨#[57]⟩ (by decide) (by decide) w (hc 9 (by decide)) (small22_9 w)
    · exact string15_none 10 ⟨#[49, 48]⟩ (by decide) (by decide) w (hc 10 (by decide)) (small22_10 w)
    · exact string15_none 58 ⟨#[53, 56]⟩ (by decide) (by decide) w (hc 58 (by decide)) (small22_58 w)
    · exact string15_none 59 ⟨#[53, 57]⟩ (by decide) (by decide) w (hc 59 (by decide)) (small22_59 w)

theorem text9 (k : Nat) (hk : k < 71) (w : World) (hc : Table w) :
    Calls Tryd.prog 9 #[.int .i64 k] w fun e w' => e = .returned (.string (text k)) ∧ w' = w := by
  have H := Lib.hid hc
  clear hc
  go_enter Tryd.func9, Tryd.ntmps9
  go_wp2_with (go_at_call 15; refine (string15 k hk _ H.out).mono ?_; rintro e w' ⟨rfl, rfl⟩)
  go_ret
  exact ⟨rfl, rfl⟩

end Go.Proofs.YtejjijcigmimhaaDoor.fnPrec
