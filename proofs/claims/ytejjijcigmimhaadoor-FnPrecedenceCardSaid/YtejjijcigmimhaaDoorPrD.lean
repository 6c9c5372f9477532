/- The plain law: each token binds as the table of the reference says; each operator is the text of just one token. -/
import Derived.Test.YtejjijcigmimhaaDoorPrC
namespace Go.Proofs.YtejjijcigmimhaaDoor.fnPrec
open Go.RowKit
set_option linter.unusedSimpArgs false
set_option linter.unusedVariables false

def numL (k : Nat) : List UInt8 := if k < 10 then [(48 + k).toUInt8] else [(48 + k / 10).toUInt8, (48 + k % 10).toUInt8]
def textL (k : Nat) : List UInt8 :=
  if (toks.getD k []).isEmpty = true then [116, 111, 107, 101, 110, 40] ++ numL k ++ [41] else toks.getD k []

theorem text_eq (k : Nat) (hk : k < 71) : text k = ⟨(textL k).toArray⟩ := by
  cases he : (toks.getD k []).isEmpty with
  | false => rw [text_some k he]; unfold textL; rw [he]; rfl
  | true => rcases toks_empty k hk he with rfl | rfl | rfl | rfl | rfl <;> rfl

def ops : List ByteArray := [⟨#[42]⟩, ⟨#[47]⟩, ⟨#[37]⟩, ⟨#[60, 60]⟩, ⟨#[62, 62]⟩, ⟨#[38]⟩, ⟨#[38, 94]⟩, ⟨#[43]⟩, ⟨#[45]⟩, ⟨#[124]⟩, ⟨#[94]⟩, ⟨#[61, 61]⟩, ⟨#[33, 61]⟩, ⟨#[60]⟩, ⟨#[60, 61]⟩, ⟨#[62]⟩, ⟨#[62, 61]⟩, ⟨#[38, 38]⟩, ⟨#[124, 124]⟩]
def opsL : List (List UInt8) := [[42], [47], [37], [60, 60], [62, 62], [38], [38, 94], [43], [45], [124], [94], [61, 61], [33, 61], [60], [60, 61], [62], [62, 61], [38, 38], [124, 124]]
def op (n : Nat) : ByteArray := ⟨(opsL.getD n []).toArray⟩
theorem ops_at (n : Nat) (h : n < 19) : ops[n]? = some (op n) := by
  revert n; decide

def amongL (s : List UInt8) : List (List UInt8) → Bool
  | [] => false
  | x :: r => (x == s) || amongL s r
def rankL (s : List UInt8) : Int :=
  if amongL s [[42], [47], [37], [60, 60], [62, 62], [38], [38, 94]] = true then 5
  else if amongL s [[43], [45], [124], [94]] = true then 4
  else if amongL s [[61, 61], [33, 61], [60], [60, 61], [62], [62, 61]] = true then 3
  else if (s == [38, 38]) = true then 2 else if (s == [124, 124]) = true then 1 else 0
theorem rank_eq (s : List UInt8) : rank ⟨s.toArray⟩ = rankL s := by
  simp only [rank, rankL, among, amongL, L5, L4, L3, ByteArray.toList_mk]
  rfl

theorem binds : ∀ k : Nat, k < 71 → prec k = rankL (textL k) := by decide +kernel
theorem binds_rank (k : Nat) (hk : k < 71) : prec k = rank (text k) := by
  rw [text_eq k hk, rank_eq]; exact binds k hk

/-- How many of the first k tokens have the text of operator n. -/
def cntL (n : Nat) : Nat → Nat
  | 0 => 0
  | k + 1 => cntL n k + if (textL k == opsL.getD n []) = true then 1 else 0
def cnt (n : Nat) : Nat → Nat
  | 0 => 0
  | k + 1 => cnt n k + if ((text k).toList == (op n).toList) = true then 1 else 0
theorem cnt_eq (n k : Nat) (h : k ≤ 71) : cnt n k = cntL n k := by
  induction k with
  | zero => rfl
  | succ k ih =>
    simp only [cnt, cntL]
    rw [ih (by omega), text_eq k (by omega), op, ByteArray.toList_mk, ByteArray.toList_mk]
theorem once : ∀ n, n < 19 → cntL n 71 = 1 := by decide +kernel
theorem cnt_once (n : Nat) (h : n < 19) : cnt n 71 = 1 := by rw [cnt_eq n 71 (by omega), once n h]
theorem cnt_le (n k : Nat) : cnt n k ≤ k := by
  induction k with
  | zero => exact Nat.le_refl _
  | succ k ih => simp only [cnt]; split <;> omega

end Go.Proofs.YtejjijcigmimhaaDoor.fnPrec
