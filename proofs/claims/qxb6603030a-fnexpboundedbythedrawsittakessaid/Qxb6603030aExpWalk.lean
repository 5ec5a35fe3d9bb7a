import Derived.Test.Qxb6603030aDrawWalk
import Derived.Test.Qxb6603030aFloatExp
import Derived.Laws.FloatArith
import Derived.Deep.LoopGhost
namespace Go.Proofs.Qxb6603030a
open Go.RowKit

theorem floatOf (n : Nat) : floatOfInt .f64 (n : Int) = Fl.F n := by
  unfold floatOfInt FloatKind.nearest FloatKind.encode Fl.F
  have h1 : decide ((n : Int) < 0) = false := by simp
  have h2 : (n : Int).natAbs = n := by omega
  rw [h1, h2]
  rfl

/-- What exp answers: the bits V of whole + first * 2^-53. -/
def Ans (wh fi V : Nat) : Prop := ∃ P, Ieee.double.mul (Fl.F fi) Fl.tiny = some P ∧ P < Fl.inf ∧ Fl.U P = fi * 2 ^ 1021 ∧ Ieee.double.add (Fl.F wh) P = some V

theorem set_facts {W wr : World} {b : Nat} {u : Value} (v : Value) (hc : wr.cell? ⟨b, 0, none⟩ = some u) (hf : wr.frozen? ⟨b, 0, none⟩ = false) (hg : Grown W wr) (hb : W.heap.size ≤ b) :
    (wr.setCell ⟨b, 0, none⟩ v).cell? ⟨b, 0, none⟩ = some v ∧ (wr.setCell ⟨b, 0, none⟩ v).frozen? ⟨b, 0, none⟩ = false ∧ Grown W (wr.setCell ⟨b, 0, none⟩ v) :=
  ⟨World.cell?_setCell_same _ _ _ hc, (World.frozen?_setCell _ _ _ _).trans hf, hg.setCell hb v⟩

theorem first_lt {u : Nat → Nat} {N i : Nat} (h : Draw.First u N) (hi : i ≤ N) (hs : Draw.stop u i = false) : i < N := by
  rcases Nat.eq_or_lt_of_le hi with rfl | h1
  · rw [h.stops] at hs; exact absurd hs (by decide)
  · exact h1
theorem first_eq {u : Nat → Nat} {N i : Nat} (h : Draw.First u N) (hi : i ≤ N) (hs : Draw.stop u i = true) : i = N := by
  rcases Nat.eq_or_lt_of_le hi with h1 | h1
  · exact h1
  · have := h.none i h1
    rw [hs] at this; exact absurd this (by decide)

set_option maxHeartbeats 1000000 in
theorem exp_any (a : Int) (N b : Nat) (W w : World) (h0 : 0 ≤ a) (h1 : a ≤ 18446744073709551615) (hN : N < 4096) (hF : Draw.First (ud a) N)
    (hc : w.cell? ⟨b, 0, none⟩ = some (.int .u64 a)) (hf : w.frozen? ⟨b, 0, none⟩ = false) (hg : Grown W w) (hb : W.heap.size ≤ b) :
    Calls Try.prog 13 #[.pointer (some ⟨b, 0, none⟩)] w fun e w' => ∃ V, e = .returned (.float .f64 V) ∧ Ans (Draw.M (ud a) N).wh (Draw.M (ud a) N).fi V ∧
      w'.cell? ⟨b, 0, none⟩ = some (.int .u64 (stt a (N + 1))) ∧ Grown W w' := by
  have HF : Hid (Draw.First (ud a) N) := hF
  have HG : Hid (Grown W w) := hg
  clear hF hg
  go_enter Try.func13, Try.ntmps13
  go_wp2
  go_loopg [3] (N + 1) (fun g x wr => ∃ (k wh fi pr : Nat), g = N + 1 - k ∧ k ≤ N ∧ Draw.M (ud a) k = ⟨wh, fi, pr, 0⟩ ∧ wh ≤ k ∧ x = .float .f64 (Fl.F wh) ∧ wr.cell? ⟨b, 0, none⟩ = some (.int .u64 (stt a k)) ∧ wr.frozen? ⟨b, 0, none⟩ = false ∧ Grown W wr)
  case atStart => exact ⟨0, 0, 0, 0, rfl, by omega, rfl, by omega, rfl, hc, hf, HG.out⟩
  case round =>
    clear hc hf HG
    obtain ⟨k, wh, fi, pr, hgk, hk, hM, hwh, rfl, hc, hf, hg⟩ := hrel
    obtain ⟨hM1, hs1⟩ := Draw.M_new hM
    have hkN := first_lt HF.out hk hs1
    have HM : Hid (Draw.M (ud a) (k + 1) = ⟨wh, ud a k, ud a k, 1⟩) := hM1
    have HK : Hid (gk = N + 1 - k) := hgk
    clear hM hM1 hs1 hgk
    have hsb := stt_bd h0 h1 k
    obtain ⟨c1, f1, g1⟩ := set_facts (.int .u64 (nx (stt a k))) hc hf hg hb
    have G1 : Hid (Grown W _) := g1
    clear hg g1
    go_wp2_with fail
    refine (next_any (stt a k) b 0 _ hsb.1 hsb.2 hc hf).mono ?_
    rintro e w1 ⟨rfl, rfl⟩
    have hx := ud_eq a k
    have hstep : nx (stt a k) = stt a (k + 1) := rfl
    rw [hstep] at hx c1 ⊢
    rw [hstep] at f1 G1
    have hx0 := (mix_bd (stt a (k + 1))).1
    generalize mix (stt a (k + 1)) = x at *
    generalize wr.setCell ⟨b, 0, none⟩ (.int .u64 (stt a (k + 1))) = w1 at *
    clear hstep hsb hc hf
    have HU : Hid (ud a k < 2 ^ 53) := ud_lt a k
    generalize ud a k = u0 at *
    go_wp2
    go_loopg [5, 6] (N - k) (fun g r p wx => ∃ (i ru pr : Nat), g = N + 1 - i ∧ k + 1 ≤ i ∧ i ≤ N ∧ Draw.M (ud a) i = ⟨wh, u0, pr, ru⟩ ∧ ru ≠ 0 ∧ ru ≤ i ∧ r = .int .i64 (ru : Int) ∧ p = .int .u64 (pr : Int) ∧ wx.cell? ⟨b, 0, none⟩ = some (.int .u64 (stt a i)) ∧ wx.frozen? ⟨b, 0, none⟩ = false ∧ Grown W wx)
    case atStart => exact ⟨k + 1, 1, u0, by omega, by omega, by omega, HM.out, by omega, by omega, rfl, rfl, c1, f1, G1.out⟩
    case round =>
      clear c1 f1 G1 HM
      obtain ⟨i, ru, pr, hgk, hki, hiN, hM, hr0, hru, rfl, rfl, hc, hf, hg⟩ := hrel
      have HK2 : Hid (gk = N + 1 - i) := hgk
      have HM : Hid (Draw.M (ud a) i = ⟨wh, u0, pr, ru⟩) := hM
      have hsb := stt_bd h0 h1 i
      obtain ⟨c1, f1, g1⟩ := set_facts (.int .u64 (nx (stt a i))) hc hf hg hb
      have G1 : Hid (Grown W _) := g1
      clear hg g1 hM hgk
      go_wp2_with fail
      refine (next_any (stt a i) b 0 _ hsb.1 hsb.2 hc hf).mono ?_
      rintro e w2 ⟨rfl, rfl⟩
      have hy := ud_eq a i
      have hstep : nx (stt a i) = stt a (i + 1) := rfl
      rw [hstep] at hy c1 ⊢
      rw [hstep] at f1 G1
      have hy0 := (mix_bd (stt a (i + 1))).1
      generalize mix (stt a (i + 1)) = y at *
      generalize wr.setCell ⟨b, 0, none⟩ (.int .u64 (stt a (i + 1))) = w2 at *
      clear hstep hsb hc hf
      by_cases hl : ud a i < pr
      · obtain ⟨hM1, hs1⟩ := Draw.M_on HM.out hr0 hl
        have HM1 : Hid (Draw.M (ud a) (i + 1) = ⟨wh, u0, ud a i, ru + 1⟩) := hM1
        have hiN' := first_lt HF.out hiN hs1
        have hl1 : ¬ (pr : Int) ≤ ((ud a i : Nat) : Int) := by omega
        clear hM1 hs1
        generalize ud a i = v at *
        go_wp2
        go_roundg (N + 1 - (i + 1))
        case measure => have := HK2.out; omega
        case rel => exact ⟨i + 1, ru + 1, v, rfl, by omega, by omega, HM1.out, by omega, by omega, by go_num, rfl, c1, f1, G1.out⟩
      · have hl1 : (pr : Int) ≤ ((ud a i : Nat) : Int) := by omega
        by_cases h2 : ru % 2 = 1
        · have h2' : ((ru : Int) % 2 == 1) = true := by rw [beq_iff_eq]; omega
          obtain rfl : i = N := first_eq HF.out hiN (Draw.M_odd HM.out hr0 hl h2)
          have HA : Hid ((Draw.M (ud a) i).wh = wh ∧ (Draw.M (ud a) i).fi = u0) := by
            show (Draw.M (ud a) i).wh = wh ∧ (Draw.M (ud a) i).fi = u0
            rw [HM.out]; exact ⟨rfl, rfl⟩
          obtain ⟨P, hP1, hP2, hP3⟩ := Fl.mul_tiny HU.out
          obtain ⟨V, hV1, _, _, _⟩ := Fl.add_answer (wh := wh) (by omega) HU.out hP2 hP3
          have HV : Hid (Ans wh u0 V) := ⟨P, hP1, hP2, hP3, hV1⟩
          have hfo := floatOf u0
          have hmul := fun w => run_float_arith (P := Try.prog) w .mul 28 .f64 (Fl.F u0) 4368491638549381120 P hP1
          have hadd := fun w => run_float_arith (P := Try.prog) w .add 28 .f64 (Fl.F wh) P V hV1
          clear hP1 hP2 hP3 hV1
          generalize ud a i = v at *
          generalize Fl.F u0 = fu at *
          generalize Fl.F wh = fw at *
          go_wp2
          go_ret
          refine ⟨V, rfl, ?_, c1, G1.out⟩
          rw [HA.out.1, HA.out.2]
          exact HV.out
        · have h2' : ((ru : Int) % 2 == 1) = false := by rw [beq_eq_false_iff_ne]; omega
          obtain ⟨hM1, hs1⟩ := Draw.M_even HM.out hr0 hl h2
          have HM1 : Hid (Draw.M (ud a) (i + 1) = ⟨wh + 1, u0, pr, 0⟩) := hM1
          have hiN' := first_lt HF.out hiN hs1
          have hone := fun w => run_float_arith (P := Try.prog) w .add 28 .f64 (Fl.F wh) 4607182418800017408 (Fl.F (wh + 1)) (Fl.add_one (by omega))
          clear hM1 hs1
          generalize ud a i = v at *
          go_wp2
          go_roundg (N + 1 - (i + 1))
          case measure => have := HK.out; omega
          case rel => exact ⟨i + 1, wh + 1, u0, pr, rfl, by omega, HM1.out, by omega, rfl, c1, f1, G1.out⟩
end Go.Proofs.Qxb6603030a
