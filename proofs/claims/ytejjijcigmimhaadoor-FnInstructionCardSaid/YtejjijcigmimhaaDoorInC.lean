/- MakeInstruction and Make, at whatever op of the table and operands that fit: the op and each operand in as many bytes as its width says. -/
import Derived.Test.YtejjijcigmimhaaDoorInB
namespace Go.Proofs.YtejjijcigmimhaaDoor.fnInst
open Go.RowKit Go.Proofs.YtejjijcigmimhaaDoorW.PrintWords Go.Proofs.YtejjijcigmimhaaDoorW.PrintLast Go.Proofs.YtejjijcigmimhaaDoorW.PrintMore
set_option linter.unusedSimpArgs false
set_option linter.unusedVariables false

/-- The greatest number beyond what a width holds. -/
def lim (w : Int) : Int := if w = 1 then 256 else if w = 2 then 65536 else 4294967296
def Fits : List Int → List Int → Prop
  | [], [] => True
  | w :: r, x :: s => (0 ≤ x ∧ x < lim w) ∧ Fits r s
  | _, _ => False
def enc1 (w x : Int) : List Int :=
  if w = 1 then [x] else if w = 2 then [x / 256, x % 256] else [x / 16777216, x / 65536 % 256, x / 256 % 256, x % 256]
def encAll : List Int → List Int → List Int
  | w :: r, x :: s => enc1 w x ++ encAll r s
  | _, _ => []

theorem ws_forms : ∀ n, n < 42 → ws n = [] ∨ ws n = [1] ∨ ws n = [2] ∨ ws n = [4] ∨ ws n = [1, 1] ∨ ws n = [2, 1] := by decide

theorem cells_at {w : World} {A : Option Addr} {n : Nat} {xs : List Int} (h : (Kd.int .i64).C w A n xs) (hn : 0 < n) :
    ∃ b o, A = some ⟨b, o, none⟩ ∧ b < w.heap.size ∧ ∀ j x, xs[j]? = some x → w.cell? ⟨b, o + j, none⟩ = some (.int .i64 x) := by
  have h' := Kd.reads_of_C (enc := Value.int .i64) (d := (0 : Int)) (h1 := fun _ => rfl) h
  obtain ⟨ad, rfl, hc⟩ := h'.2.2 hn
  have hl := h'.1
  have h0 := hc 0 hn
  obtain ⟨b, o, spot⟩ := ad
  have hspot : spot = none := by simpa [Addr.add] using World.cell?_spot h0
  subst hspot
  refine ⟨b, o, rfl, by simpa [Addr.add] using World.block_lt_of_cell? _ _ h0, fun j x hj => ?_⟩
  have hjl : j < xs.length := (List.getElem?_eq_some_iff.1 hj).1
  have := hc j (by omega)
  rw [add_at] at this
  rw [this]
  simp [List.getD, hj]

theorem made (w : World) (l : List Int) (hl : l.length ≤ 9) :
    (Kd.int .u8).R 5 (w.alloc (.cells (nums .u8 l).toArray 5)) w.heap.size (fun _ => True) (.slice (some ⟨w.heap.size, 0, none⟩) l.length l.length) l ∧ Below w.heap.size w (w.alloc (.cells (nums .u8 l).toArray 5)) :=
  ⟨Kd.R_of_own (own_lit w w.heap.size 5 .u8 l (Nat.le_refl _) (by omega)) (fun _ _ => trivial), below_alloc (Below.refl _ _) _⟩

theorem make13 (n : Nat) (hn : n < 42) (A : Option Addr) (cx : Nat) (xs : List Int) (w : World) (hT : Tab w) (hC : (Kd.int .i64).C w A xs.length xs) (hf : Fits (ws n) xs) :
    Calls Tryd.prog 13 #[.int .u8 n, .slice A xs.length cx] w fun e w' => ∃ v, e = .returned v ∧ (Kd.int .u8).R 5 w' w.heap.size (fun _ => True) v ((n : Int) :: encAll (ws n) xs) ∧ Below w.heap.size w w' := by
  obtain ⟨a, c, h0, hlc, hCw⟩ := hT n hn
  rcases ws_forms n hn with e | e | e | e | e | e <;> rw [e] at h0 hCw hf ⊢
  · match xs, hf with
    | [], _ =>
      refine (make13_0 n hn a A c cx w h0).mono fun e' w' ⟨he, hw⟩ => ⟨_, he, ?_⟩
      subst hw
      exact made w [(n : Int)] (by simp)
  · match xs, hf with
    | [x], ⟨⟨x0, x1⟩, _⟩ =>
      obtain ⟨b, o, rfl0, hb, hc⟩ := cells_at hCw (by simp)
      obtain rfl := Option.some.inj rfl0
      obtain ⟨b1, o1, rfl, hb1, hc1⟩ := cells_at hC (by simp)
      refine (make13_1 n hn b o b1 o1 c cx x w h0 (hc 0 _ rfl) (hc1 0 _ rfl) x0 x1 hb hb1).mono fun e' w' ⟨he, hw⟩ => ⟨_, he, ?_⟩
      subst hw
      exact made w [(n : Int), x] (by simp)
  · match xs, hf with
    | [x], ⟨⟨x0, x1⟩, _⟩ =>
      obtain ⟨b, o, rfl0, hb, hc⟩ := cells_at hCw (by simp)
      obtain rfl := Option.some.inj rfl0
      obtain ⟨b1, o1, rfl, hb1, hc1⟩ := cells_at hC (by simp)
      refine (make13_2 n hn b o b1 o1 c cx x w h0 (hc 0 _ rfl) (hc1 0 _ rfl) x0 x1 hb hb1).mono fun e' w' ⟨he, hw⟩ => ⟨_, he, ?_⟩
      subst hw
      exact made w [(n : Int), x / 256, x % 256] (by simp)
  · match xs, hf with
    | [x], ⟨⟨x0, x1⟩, _⟩ =>
      obtain ⟨b, o, rfl0, hb, hc⟩ := cells_at hCw (by simp)
      obtain rfl := Option.some.inj rfl0
      obtain ⟨b1, o1, rfl, hb1, hc1⟩ := cells_at hC (by simp)
      refine (make13_4 n hn b o b1 o1 c cx x w h0 (hc 0 _ rfl) (hc1 0 _ rfl) x0 x1 hb hb1).mono fun e' w' ⟨he, hw⟩ => ⟨_, he, ?_⟩
      subst hw
      exact made w [(n : Int), x / 16777216, x / 65536 % 256, x / 256 % 256, x % 256] (by simp)
  · match xs, hf with
    | [x, y], ⟨⟨x0, x1⟩, ⟨y0, y1⟩, _⟩ =>
      obtain ⟨b, o, rfl0, hb, hc⟩ := cells_at hCw (by simp)
      obtain rfl := Option.some.inj rfl0
      obtain ⟨b1, o1, rfl, hb1, hc1⟩ := cells_at hC (by simp)
      refine (make13_1_1 n hn b o b1 o1 c cx x y w h0 (hc 0 _ rfl) (hc1 0 _ rfl) (hc 1 _ rfl) (hc1 1 _ rfl) x0 x1 y0 y1 hb hb1).mono fun e' w' ⟨he, hw⟩ => ⟨_, he, ?_⟩
      subst hw
      exact made w [(n : Int), x, y] (by simp)
  · match xs, hf with
    | [x, y], ⟨⟨x0, x1⟩, ⟨y0, y1⟩, _⟩ =>
      obtain ⟨b, o, rfl0, hb, hc⟩ := cells_at hCw (by simp)
      obtain rfl := Option.some.inj rfl0
      obtain ⟨b1, o1, rfl, hb1, hc1⟩ := cells_at hC (by simp)
      refine (make13_2_1 n hn b o b1 o1 c cx x y w h0 (hc 0 _ rfl) (hc1 0 _ rfl) (hc 1 _ rfl) (hc1 1 _ rfl) x0 x1 y0 y1 hb hb1).mono fun e' w' ⟨he, hw⟩ => ⟨_, he, ?_⟩
      subst hw
      exact made w [(n : Int), x / 256, x % 256, y] (by simp)

set_option maxHeartbeats 400000 in
theorem make6 (n : Nat) (hn : n < 42) (A : Option Addr) (cx : Nat) (xs : List Int) (w : World) (hT : Tab w) (hC : (Kd.int .i64).C w A xs.length xs) (hlen : xs.length = (ws n).length) (hf : Fits (ws n) xs) :
    Calls Tryd.prog 6 #[.int .i64 n, .slice A xs.length cx] w fun e w' => ∃ v, e = .returned v ∧ (Kd.int .u8).R 5 w' w.heap.size (fun _ => True) v ((n : Int) :: encAll (ws n) xs) ∧ Below w.heap.size w w' := by
  obtain ⟨a, c, h0, hlc, hCw⟩ := hT n hn
  have hne : ((xs.length : Int) != ((ws n).length : Int)) = false := by simp [hlen]
  have hne' : (xs.length != (ws n).length) = false := by simp [hlen]
  have H := Lib.hid (make13 n hn A cx xs w hT hC hf)
  clear hT hC hlen hf hCw
  go_enter Tryd.func6, Tryd.ntmps6
  go_wp2_with (go_at_call 13; refine (H.out).mono ?_; rintro e w' ⟨v, rfl, hr, hb⟩)
  go_ret
  exact ⟨_, rfl, hr, hb⟩

theorem make6_none (z : Int) (hz : z < 0 ∨ 42 ≤ z) (A : Option Addr) (m cx : Nat) (w : World) :
    Calls Tryd.prog 6 #[.int .i64 z, .slice A m cx] w fun e w' => e = .returned (.slice none 0 0) ∧ w = w' := by
  rcases hz with h | h
  · have hd : decide (z < 0) = true := by simp; omega
    go_enter Tryd.func6, Tryd.ntmps6
    go_wp2
    go_ret
    exact ⟨rfl, rfl⟩
  · have hd : decide (z < 0) = false := by simp; omega
    have hd2 : decide (42 ≤ z) = true := by simp; omega
    go_enter Tryd.func6, Tryd.ntmps6
    go_wp2
    go_ret
    exact ⟨rfl, rfl⟩

end Go.Proofs.YtejjijcigmimhaaDoor.fnInst
