/- The plain law: what Read tells of the bytes of operands is these operands and how many bytes they take. -/
import Derived.Test.YtejjijcigmimhaaDoorInC
import Derived.Laws.BitsAllLaws
import Derived.Laws.BitsLemmas
namespace Go.Proofs.YtejjijcigmimhaaDoor.fnInst
open Go.RowKit Go.Proofs.YtejjijcigmimhaaDoorW.PrintWords Go.Proofs.YtejjijcigmimhaaDoorW.PrintLast Go.Proofs.YtejjijcigmimhaaDoorW.PrintMore
open Go.Proofs.YtejjijcigmimhaaDoor.PFnInstruction
set_option linter.unusedSimpArgs false
set_option linter.unusedVariables false

/-- The bits of two numbers that are not below 0, taken together: as with whole numbers. -/
theorem or_nat (p q : Nat) (hp : p < 2 ^ 62) (hq : q < 2 ^ 62) : Go.bits .or .i64 (p : Int) (q : Int) = ((p ||| q : Nat) : Int) := by
  have back : ∀ r : Nat, r < 2 ^ 62 → (BitVec.ofInt 64 (r : Int)).toNat = r := fun r hr => by
    simp only [BitVec.ofInt_natCast, BitVec.toNat_ofNat]
    omega
  have hlt : p ||| q < 2 ^ 62 := Nat.or_lt_two_pow hp hq
  have key : ((BitVec.ofInt 64 (p : Int)) ||| (BitVec.ofInt 64 (q : Int))).toNat = p ||| q := by
    simp only [BitVec.toNat_or, back p hp, back q hq]
  have whole : Go.bits .or .i64 (p : Int) (q : Int) = IntKind.i64.wrap ((((BitVec.ofInt 64 (p : Int)) ||| (BitVec.ofInt 64 (q : Int))).toNat : Nat) : Int) := rfl
  rw [whole, key, IntKind.wrap_i64]
  omega
theorem or_apart (a b i : Nat) (ha : a < 2 ^ i) : a ||| b * 2 ^ i = a + b * 2 ^ i := by
  rw [Nat.or_comm, Nat.mul_comm, ← Nat.two_pow_add_eq_or_of_lt ha, Nat.add_comm]
theorem or8 (a b : Int) (a0 : 0 ≤ a) (a1 : a < 256) (b0 : 0 ≤ b) (b1 : b < 256) : Go.bits .or .i64 a (b * 256) = a + b * 256 := by
  obtain ⟨p, rfl⟩ := Int.eq_ofNat_of_zero_le a0
  obtain ⟨q, rfl⟩ := Int.eq_ofNat_of_zero_le b0
  have h := or_nat p (q * 256) (by omega) (by omega)
  have e : p ||| q * 256 = p + q * 256 := or_apart p q 8 (by omega)
  rw [e] at h
  simpa using h
theorem or16 (a b : Int) (a0 : 0 ≤ a) (a1 : a < 65536) (b0 : 0 ≤ b) (b1 : b < 256) : Go.bits .or .i64 a (b * 65536) = a + b * 65536 := by
  obtain ⟨p, rfl⟩ := Int.eq_ofNat_of_zero_le a0
  obtain ⟨q, rfl⟩ := Int.eq_ofNat_of_zero_le b0
  have h := or_nat p (q * 65536) (by omega) (by omega)
  have e : p ||| q * 65536 = p + q * 65536 := or_apart p q 16 (by omega)
  rw [e] at h
  simpa using h
theorem or24 (a b : Int) (a0 : 0 ≤ a) (a1 : a < 16777216) (b0 : 0 ≤ b) (b1 : b < 256) : Go.bits .or .i64 a (b * 16777216) = a + b * 16777216 := by
  obtain ⟨p, rfl⟩ := Int.eq_ofNat_of_zero_le a0
  obtain ⟨q, rfl⟩ := Int.eq_ofNat_of_zero_le b0
  have h := or_nat p (q * 16777216) (by omega) (by omega)
  have e : p ||| q * 16777216 = p + q * 16777216 := or_apart p q 24 (by omega)
  rw [e] at h
  simpa using h

theorem w64 (z : Int) (h0 : 0 ≤ z) (h1 : z < 9223372036854775808) : wrap64 z = z := by
  unfold wrap64
  omega

def total : List Int → Int
  | [] => 0
  | w :: r => w + total r

theorem sum_ws (l : List Int) (h : l = [] ∨ l = [1] ∨ l = [2] ∨ l = [4] ∨ l = [1, 1] ∨ l = [2, 1]) : laws_sum.f 3 l = some (total l) := by
  rcases h with rfl | rfl | rfl | rfl | rfl | rfl <;> simp [laws_sum.f, laws_sum.l0, rd, wrap64, total]

theorem wraps {x : Int} (x0 : 0 ≤ x) (x1 : x < 4294967296) : wrap64 x = x := w64 x x0 (by omega)

theorem read_0 : impl_Read.f 6 [] [] = some ([], 0) := by
  simp [impl_Read.f, impl_Read.l0, parser_ReadOperands.f, parser_ReadOperands.l0, rd, wrap64]
theorem read_1 (x : Int) (x0 : 0 ≤ x) (x1 : x < 256) : impl_Read.f 6 [1] [x] = some ([x], 1) := by
  have e : wrap64 x = x := w64 x x0 (by omega)
  simp [impl_Read.f, impl_Read.l0, parser_ReadOperands.f, parser_ReadOperands.l0, rd, e, wrap64]
theorem read_2 (x : Int) (x0 : 0 ≤ x) (x1 : x < 65536) : impl_Read.f 6 [2] [x / 256, x % 256] = some ([x], 2) := by
  have e1 : wrap64 (x % 256) = x % 256 := w64 _ (by omega) (by omega)
  have e2 : wrap64 (x / 256) = x / 256 := w64 _ (by omega) (by omega)
  have e3 : wrap64 (x / 256 * 256) = x / 256 * 256 := w64 _ (by omega) (by omega)
  have e4 := or8 (x % 256) (x / 256) (by omega) (by omega) (by omega) (by omega)
  simp [impl_Read.f, impl_Read.l0, parser_ReadOperands.f, parser_ReadOperands.l0, rd, e1, e2, e3, e4, wrap64]
  omega
theorem read_4 (x : Int) (x0 : 0 ≤ x) (x1 : x < 4294967296) : impl_Read.f 6 [4] [x / 16777216, x / 65536 % 256, x / 256 % 256, x % 256] = some ([x], 4) := by
  have e1 : wrap64 (x % 256) = x % 256 := w64 _ (by omega) (by omega)
  have e2 : wrap64 (x / 256 % 256) = x / 256 % 256 := w64 _ (by omega) (by omega)
  have e3 : wrap64 (x / 256 % 256 * 256) = x / 256 % 256 * 256 := w64 _ (by omega) (by omega)
  have e4 : wrap64 (x / 65536 % 256) = x / 65536 % 256 := w64 _ (by omega) (by omega)
  have e5 : wrap64 (x / 65536 % 256 * 65536) = x / 65536 % 256 * 65536 := w64 _ (by omega) (by omega)
  have e6 : wrap64 (x / 16777216) = x / 16777216 := w64 _ (by omega) (by omega)
  have e7 : wrap64 (x / 16777216 * 16777216) = x / 16777216 * 16777216 := w64 _ (by omega) (by omega)
  have e8 := or8 (x % 256) (x / 256 % 256) (by omega) (by omega) (by omega) (by omega)
  have e9 := or16 (x % 256 + x / 256 % 256 * 256) (x / 65536 % 256) (by omega) (by omega) (by omega) (by omega)
  have e10 := or24 (x % 256 + x / 256 % 256 * 256 + x / 65536 % 256 * 65536) (x / 16777216) (by omega) (by omega) (by omega) (by omega)
  simp [impl_Read.f, impl_Read.l0, parser_ReadOperands.f, parser_ReadOperands.l0, rd, e1, e2, e3, e4, e5, e6, e7, e8, e9, e10, wrap64]
  omega
theorem read_1_1 (x y : Int) (x0 : 0 ≤ x) (x1 : x < 256) (y0 : 0 ≤ y) (y1 : y < 256) : impl_Read.f 6 [1, 1] [x, y] = some ([x, y], 2) := by
  have e : wrap64 x = x := w64 x x0 (by omega)
  have e2 : wrap64 y = y := w64 y y0 (by omega)
  simp [impl_Read.f, impl_Read.l0, parser_ReadOperands.f, parser_ReadOperands.l0, rd, e, e2, wrap64]
theorem read_2_1 (x y : Int) (x0 : 0 ≤ x) (x1 : x < 65536) (y0 : 0 ≤ y) (y1 : y < 256) : impl_Read.f 6 [2, 1] [x / 256, x % 256, y] = some ([x, y], 3) := by
  have e1 : wrap64 (x % 256) = x % 256 := w64 _ (by omega) (by omega)
  have e2 : wrap64 (x / 256) = x / 256 := w64 _ (by omega) (by omega)
  have e3 : wrap64 (x / 256 * 256) = x / 256 * 256 := w64 _ (by omega) (by omega)
  have e4 := or8 (x % 256) (x / 256) (by omega) (by omega) (by omega) (by omega)
  have e5 : wrap64 y = y := w64 y y0 (by omega)
  simp [impl_Read.f, impl_Read.l0, parser_ReadOperands.f, parser_ReadOperands.l0, rd, e1, e2, e3, e4, e5, wrap64]
  omega

/-- WHAT WAS WRITTEN IS READ. -/
theorem read_ws (l xs : List Int) (h : l = [] ∨ l = [1] ∨ l = [2] ∨ l = [4] ∨ l = [1, 1] ∨ l = [2, 1]) (hf : Fits l xs) :
    impl_Read.f 6 l (encAll l xs) = some (xs, total l) ∧ ((encAll l xs).length : Int) = total l ∧ xs.length = l.length := by
  rcases h with rfl | rfl | rfl | rfl | rfl | rfl
  · match xs, hf with
    | [], _ => exact ⟨read_0, rfl, rfl⟩
  · match xs, hf with
    | [x], ⟨⟨x0, x1⟩, _⟩ => exact ⟨read_1 x x0 x1, rfl, rfl⟩
  · match xs, hf with
    | [x], ⟨⟨x0, x1⟩, _⟩ => exact ⟨read_2 x x0 x1, rfl, rfl⟩
  · match xs, hf with
    | [x], ⟨⟨x0, x1⟩, _⟩ => exact ⟨read_4 x x0 x1, rfl, rfl⟩
  · match xs, hf with
    | [x, y], ⟨⟨x0, x1⟩, ⟨y0, y1⟩, _⟩ => exact ⟨read_1_1 x y x0 x1 y0 y1, rfl, rfl⟩
  · match xs, hf with
    | [x, y], ⟨⟨x0, x1⟩, ⟨y0, y1⟩, _⟩ => exact ⟨read_2_1 x y x0 x1 y0 y1, rfl, rfl⟩

end Go.Proofs.YtejjijcigmimhaaDoor.fnInst
