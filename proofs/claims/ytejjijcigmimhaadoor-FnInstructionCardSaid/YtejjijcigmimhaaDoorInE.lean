/- The law's own walk. -/
import Derived.Test.YtejjijcigmimhaaDoorInD
import Derived.Deep.QuietTactic
import Derived.BigQuiet
namespace Go.Proofs.YtejjijcigmimhaaDoor.fnInst
open Go.RowKit Go.Proofs.YtejjijcigmimhaaDoorW.PrintWords Go.Proofs.YtejjijcigmimhaaDoorW.PrintLast Go.Proofs.YtejjijcigmimhaaDoorW.PrintMore
open Go.Proofs.YtejjijcigmimhaaDoor.PFnInstruction
set_option linter.unusedSimpArgs false
set_option linter.unusedVariables false

/-- The first i operands fit their widths. -/
def FitTo (l xs : List Int) (i : Int) : Prop := ∀ j : Nat, (j : Int) < i → 0 ≤ xs.getD j 0 ∧ xs.getD j 0 < lim (l.getD j 0)
theorem FitTo.fits : ∀ (l xs : List Int), xs.length = l.length → FitTo l xs xs.length → Fits l xs
  | [], [], _, _ => trivial
  | [], _ :: _, h, _ => by simp at h
  | _ :: _, [], h, _ => by simp at h
  | w :: r, x :: s, h, hf => ⟨by simpa using hf 0 (by simp), FitTo.fits r s (by simpa using h) (fun j hj => by simpa using hf (j + 1) (by simp; omega))⟩

theorem FitTo.step {l xs : List Int} {i : Int} (h0 : 0 ≤ i) (h : FitTo l xs i) (hx : 0 ≤ rd xs i ∧ rd xs i < lim (rd l i)) : FitTo l xs (i + 1) := by
  intro j hj
  by_cases hlt : (j : Int) < i
  · exact h j hlt
  · have e : i.toNat = j := by omega
    unfold rd at hx
    rw [e] at hx
    exact hx

theorem rd_forms (l : List Int) (h : l = [] ∨ l = [1] ∨ l = [2] ∨ l = [4] ∨ l = [1, 1] ∨ l = [2, 1]) (i : Int) (h0 : 0 ≤ i) (hi : i < l.length) : rd l i = 1 ∨ rd l i = 2 ∨ rd l i = 4 := by
  obtain ⟨k, rfl⟩ := Int.eq_ofNat_of_zero_le h0
  unfold rd
  rcases h with rfl | rfl | rfl | rfl | rfl | rfl
  · simp at hi; omega
  · obtain rfl : k = 0 := by simp at hi; omega
    simp
  · obtain rfl : k = 0 := by simp at hi; omega
    simp
  · obtain rfl : k = 0 := by simp at hi; omega
    simp
  · have : k = 0 ∨ k = 1 := by simp at hi; omega
    rcases this with rfl | rfl <;> simp
  · have : k = 0 ∨ k = 1 := by simp at hi; omega
    rcases this with rfl | rfl <;> simp

theorem total_le : ∀ n, n < 42 → 0 ≤ total (ws n) ∧ total (ws n) ≤ 4 := by decide

theorem info5 : (Tryd.prog.info? 5).map (·.size) = some 1 := by kernel_rfl

set_option maxRecDepth 100000 in
set_option maxHeartbeats 1000000 in
theorem walkTrue (n : Nat) (hn : n < 42) (A : Option Addr) (c : Nat) (xs : List Int) (w : World) (hT : Tab w) (hC : (Kd.int .i64).C w A xs.length xs) (hlen : xs.length = (ws n).length) :
    Calls Tryd.prog 3 #[.int .i64 n, .slice A xs.length c] w fun e w' => e = .returned (.bool true) ∧ Below w.heap.size w w' := by
  have hl2 := ws_len n hn
  have hm : ¬ (2147483647 : Int) < xs.length := by omega
  have hm' : ¬ 2147483647 < xs.length := by omega
  have hne : (((ws n).length : Int) != (xs.length : Int)) = false := by simp [hlen]
  have hne' : ((ws n).length != xs.length) = false := by simp [hlen]
  have hn60 : ¬ (60 : Int) < n := by omega
  have HT := Lib.hid hT
  have HC := Lib.hid hC
  have HL := Lib.hid hlen
  clear hT hC hlen
  go_enter Tryd.func3, Tryd.ntmps3
  go_wp2_with fail
  refine (operands5 n hn _ HT.out).mono ?_
  rintro e w1 ⟨v, rfl, hr, hb⟩
  obtain ⟨A', c', rfl, hc', hCw⟩ := Kd.R_reads hr
  have HB := Lib.hid hb
  have HCw := Lib.hid hCw
  clear hr hb hCw
  go_wp2_with fail
  go_loopw [6] (fun v wr => ∃ i : Int, 0 ≤ i ∧ i ≤ xs.length ∧ v = .int .i64 i ∧ Drawn0 w1 wr ∧ FitTo (ws n) xs i) (fun v _ => ((xs.length : Int) - intOf v).toNat)
  case atStart => exact ⟨0, by omega, by omega, rfl, Drawn0.refl _, fun j hj => by omega⟩
  case round =>
    obtain ⟨i, hi0, hi1, rfl, hd, hfit⟩ := hrel
    have HF := Lib.hid hfit
    clear hfit
    by_cases hlt : i < xs.length
    · have hlw : i < (ws n).length := by have := HL.out; omega
      have hform := rd_forms (ws n) (ws_forms n hn) i hi0 hlw
      obtain ⟨ad, ea, hx⟩ := Kd.at_int (Kd.C_below HC.out HB.out) i hi0 hlt
      obtain ⟨ad', ea', hw⟩ := Kd.at_int HCw.out i hi0 hlw
      cases ea
      cases ea'
      obtain ⟨q, rfl⟩ := hd
      obtain ⟨x, hxd⟩ : ∃ x, x = rd xs i := ⟨_, rfl⟩
      obtain ⟨y, hyd⟩ : ∃ y, y = rd (ws n) i := ⟨_, rfl⟩
      rw [← hxd] at hx
      rw [← hyd] at hw hform
      have HX := Lib.hid hxd
      have HY := Lib.hid hyd
      clear hxd hyd
      rcases hform with rfl | rfl | rfl
      · by_cases hneg : x < 0
        · have hd1 : decide (x < 0) = true := by simpa using hneg
          go_wp2_with fail
          go_quiet (fail)
          go_wp2_with fail
          go_ret
          exact ⟨rfl, pw_below_drewN (pw_below_drewN HB.out _) _⟩
        · have hd1 : decide (x < 0) = false := by simpa using hneg
          by_cases hbig : 256 ≤ x
          · have hd2 : decide (256 ≤ x) = true := by simpa using hbig
            go_wp2_with fail
            go_quiet (fail)
            go_wp2_with fail
            go_ret
            exact ⟨rfl, pw_below_drewN (pw_below_drewN HB.out _) _⟩
          · have hd2 : decide (256 ≤ x) = false := by simpa using hbig
            have HS := Lib.hid (FitTo.step hi0 HF.out (by rw [← HX.out, ← HY.out]; exact ⟨by omega, by simp [lim]; omega⟩))
            go_wp2_with fail
            go_quiet (fail)
            go_wp2_with fail
            go_roundw
            case rel => exact ⟨i + 1, by omega, by omega, rfl, ⟨⟨_, rfl⟩⟩, HS.out⟩
            case measure => simp [intOf]; omega
      · by_cases hneg : x < 0
        · have hd1 : decide (x < 0) = true := by simpa using hneg
          go_wp2_with fail
          go_quiet (fail)
          go_wp2_with fail
          go_ret
          exact ⟨rfl, pw_below_drewN (pw_below_drewN HB.out _) _⟩
        · have hd1 : decide (x < 0) = false := by simpa using hneg
          by_cases hbig : 65536 ≤ x
          · have hd2 : decide (65536 ≤ x) = true := by simpa using hbig
            go_wp2_with fail
            go_quiet (fail)
            go_wp2_with fail
            go_ret
            exact ⟨rfl, pw_below_drewN (pw_below_drewN HB.out _) _⟩
          · have hd2 : decide (65536 ≤ x) = false := by simpa using hbig
            have HS := Lib.hid (FitTo.step hi0 HF.out (by rw [← HX.out, ← HY.out]; exact ⟨by omega, by simp [lim]; omega⟩))
            go_wp2_with fail
            go_quiet (fail)
            go_wp2_with fail
            go_roundw
            case rel => exact ⟨i + 1, by omega, by omega, rfl, ⟨⟨_, rfl⟩⟩, HS.out⟩
            case measure => simp [intOf]; omega
      · by_cases hneg : x < 0
        · have hd1 : decide (x < 0) = true := by simpa using hneg
          go_wp2_with fail
          go_quiet (fail)
          go_wp2_with fail
          go_ret
          exact ⟨rfl, pw_below_drewN (pw_below_drewN HB.out _) _⟩
        · have hd1 : decide (x < 0) = false := by simpa using hneg
          by_cases hbig : 4294967296 ≤ x
          · have hd2 : decide (4294967296 ≤ x) = true := by simpa using hbig
            go_wp2_with fail
            go_quiet (fail)
            go_wp2_with fail
            go_ret
            exact ⟨rfl, pw_below_drewN (pw_below_drewN HB.out _) _⟩
          · have hd2 : decide (4294967296 ≤ x) = false := by simpa using hbig
            have HS := Lib.hid (FitTo.step hi0 HF.out (by rw [← HX.out, ← HY.out]; exact ⟨by omega, by simp [lim]; omega⟩))
            go_wp2_with fail
            go_quiet (fail)
            go_wp2_with fail
            go_roundw
            case rel => exact ⟨i + 1, by omega, by omega, rfl, ⟨⟨_, rfl⟩⟩, HS.out⟩
            case measure => simp [intOf]; omega
    · have hie : i = xs.length := by omega
      subst hie
      have HFits := Lib.hid (FitTo.fits (ws n) xs HL.out HF.out)
      obtain ⟨q, rfl⟩ := hd
      clear hi0 hi1 hlt
      have HB2 := Lib.hid (pw_below_drewN HB.out q)
      obtain ⟨hread, hlenE, -⟩ := read_ws (ws n) xs (ws_forms n hn) HFits.out
      have hT4 : 0 ≤ total (ws n) ∧ total (ws n) ≤ 4 := total_le n hn
      obtain ⟨l1, hl1⟩ : ∃ l1, l1 = encAll (ws n) xs := ⟨_, rfl⟩
      obtain ⟨T, hTt⟩ : ∃ T, T = total (ws n) := ⟨_, rfl⟩
      have HM := Lib.hid (make6 n hn A c xs (w1.drewN q) (HT.out.below HB2.out) (Kd.C_below HC.out HB2.out) HL.out HFits.out)
      rw [← hl1] at hread hlenE HM
      rw [← hTt] at hread hlenE hT4
      obtain ⟨hT0, hT1⟩ := hT4
      have HR := Lib.hid hread
      have HE := Lib.hid hlenE
      have HTt := Lib.hid hTt
      clear hl1 hTt hread hlenE
      go_wp2_with fail
      refine (HM.out).mono ?_
      rintro e w3 ⟨vb, rfl, hrb, hbb⟩
      obtain ⟨g, cap, rfl, hgb, hgl, -⟩ := Kd.R_form hrb (by simp)
      simp only [List.length_cons] at hrb
      obtain ⟨-, hcap, hCb⟩ := Kd.R_reads' hrb
      obtain ⟨i5, hi5, h5⟩ := Option.map_eq_some_iff.1 info5
      obtain ⟨A1, hcut, hA1⟩ := print_cut (P := Tryd.prog) 24 5 .i64 Tryd.underlying24 hi5 h5 (some ⟨g, 0, none⟩) (l1.length + 1) cap 1 (by omega)
      have hcut' : ∀ W : World, (Instr.slice 24 (.slice (some ⟨g, 0, none⟩) (l1.length + 1) cap) (some (.int .i64 1)) none none).run Tryd.prog W = .ok (.slice A1 l1.length (cap - 1)) W := hcut
      have HB3 := Lib.hid (below_then HB2.out HB2.out.size hbb)
      have HC1 := Lib.hid (Kd.C_of_reads (enc := Value.int .u8) (d := (0 : Int)) (h1 := fun _ => rfl) (hA1 w3 .u8 ((n : Int) :: l1) hcap (Kd.reads_of_C hCb)))
      have HC3 := Lib.hid (Kd.C_below (Kd.C_drewN HCw.out q) hbb)
      have hg0 : w3.cell? ⟨g, 0, none⟩ = some (.int .u8 n) := by
        obtain ⟨ad, ea, hx⟩ := Kd.at_int hCb 0 (by omega) (by simp)
        cases ea
        simpa [Addr.add, rd] using hx
      have HG0 := Lib.hid hg0
      have e0 : (((l1.length : Int) + 1) == 0) = false := beq_eq_false_iff_ne.2 (by omega)
      have e0' : ((l1.length + 1) == 0) = false := beq_eq_false_iff_ne.2 (by omega)
      have e0'' : ((((l1.length + 1 : Nat)) : Int) == 0) = false := beq_eq_false_iff_ne.2 (by omega)
      clear hrb hbb hcut hA1 hCb hi5 h5 hg0 hgb
      go_wp2_with fail
      refine (impl_Read.calls 6 A' c' (ws n) A1 (cap - 1) l1 xs T w3 HC3.out hc' HC1.out (by omega) HR.out).mono ?_
      rintro e w4 ⟨v2, rfl, hr2, hb2⟩
      obtain ⟨A2, c2, rfl, hc2, hC2⟩ := Kd.R_reads hr2
      have HC2 := Lib.hid hC2
      have HB4 := Lib.hid (below_then HB3.out HB3.out.size hb2)
      have HC4 := Lib.hid (Kd.C_below HC3.out hb2)
      have hg4 := pw_cell_below hb2 HG0.out
      have HS := Lib.hid (show laws_sum.f 3 (ws n) = some T by rw [HTt.out]; exact sum_ws (ws n) (ws_forms n hn))
      have e1 : (((l1.length : Int) + 1) != (1 + T)) = false := by have := HE.out; simp; omega
      have e1' : ((((l1.length + 1 : Nat)) : Int) != (1 + T)) = false := by have := HE.out; simp; omega
      clear hr2 hb2 hC2
      go_wp2_with fail
      refine (laws_sum.calls 3 A' c' (ws n) T w4 HC4.out hc' HS.out).mono ?_
      rintro e w5 ⟨rfl, m1, rfl⟩
      go_wp2_with fail
      refine (laws_sum.calls 3 A' c' (ws n) T (w4.drewN m1) (Kd.C_drewN HC4.out m1) hc' HS.out).mono ?_
      rintro e w6 ⟨rfl, m2, rfl⟩
      go_wp2_with fail
      clear e0 e0' e0'' e1 e1' hg4
      go_loopw [10] (fun v wr => ∃ i : Int, 0 ≤ i ∧ i ≤ xs.length ∧ v = .int .i64 i ∧ Drawn0 w4 wr) (fun v _ => ((xs.length : Int) - intOf v).toNat)
      case atStart => exact ⟨0, by omega, by omega, rfl, ⟨⟨_, rfl⟩⟩⟩
      case round =>
        obtain ⟨i, hi0, hi1, rfl, hd⟩ := hrel
        by_cases hlt : i < xs.length
        · obtain ⟨ad, ea, hx⟩ := Kd.at_int (Kd.C_below HC.out HB4.out) i hi0 hlt
          obtain ⟨ad', ea', hw⟩ := Kd.at_int HC2.out i hi0 hlt
          cases ea
          cases ea'
          obtain ⟨r, rfl⟩ := hd
          go_wp2_with fail
          go_quiet (fail)
          go_wp2_with fail
          go_roundw
          case rel => exact ⟨i + 1, by omega, by omega, rfl, ⟨⟨_, rfl⟩⟩⟩
          case measure => simp [intOf]; omega
        · obtain ⟨r, rfl⟩ := hd
          go_wp2_with fail
          go_ret
          exact ⟨rfl, pw_below_drewN HB4.out _⟩

end Go.Proofs.YtejjijcigmimhaaDoor.fnInst
