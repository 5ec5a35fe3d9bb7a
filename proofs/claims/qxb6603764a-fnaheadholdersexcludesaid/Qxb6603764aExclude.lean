import Derived.Test.Qxb6603764aKinds
namespace Go.Proofs.Qxb6603764a
open Go.RowKit

theorem one_of {K : Nat → Int} {n m : Nat} {Z : Nat → Int}
    (h : ((K 0 = 1 ∨ K 0 = 2) ∧ ∀ x : Int, (∃ j, j < m ∧ Z j = x) → x = 1 ∨ x = 2) ∨ (K 0 ≠ 1 ∧ K 0 ≠ 2 ∧ ∀ x : Int, (∃ j, j < m ∧ Z j = x) → x = K 0))
    (hall : ∀ i, i < n → ∃ j, j < m ∧ Z j = K i) : Ahead.One K n := by
  rcases h with ⟨h1, h2⟩ | ⟨h1, h2, h3⟩
  · exact Or.inl ⟨h1, fun i hi => h2 _ (hall i hi)⟩
  · exact Or.inr ⟨h1, h2, fun i hi => h3 _ (hall i hi)⟩

set_option maxHeartbeats 1000000 in
theorem exclude_zero (ao : Option Addr) (cap : Nat) (w : World) :
    Calls Try.prog 4 #[.slice ao 0 cap] w fun e w' => e = .returned (.bool true) ∧ Below w.heap.size w w' := by
  go_enter Try.func4, Try.ntmps4
  go_wp2_with fail
  refine (bytesB_zero ao cap _).mono ?_
  rintro e w1 ⟨hr, rfl⟩
  rcases hr with rfl | ⟨rfl, _⟩
  · go_wp2
    go_ret
    exact ⟨rfl, Below.refl _ _⟩
  · go_wp2_with fail
    refine (queueOK_zero ao cap _).mono ?_
    rintro e w1 ⟨hr, rfl⟩
    rcases hr with rfl | ⟨rfl, _⟩
    · go_wp2
      go_ret
      exact ⟨rfl, Below.refl _ _⟩
    · go_wp2
      go_ret
      exact ⟨rfl, Below.refl _ _⟩

set_option maxHeartbeats 2000000 in
theorem exclude_row (b off n cap : Nat) (N : Nat → ByteArray) (K S : Nat → Int) (w : World) (h : Row3 w b off n N K S) (hb : b < w.heap.size) (h0 : 0 < n) (hm : n ≤ maxLen) (hN : ∀ i, i < n → (N i).size ≤ maxLen) :
    Calls Try.prog 4 #[.slice (some ⟨b, off, none⟩) n cap] w fun e w' => e = .returned (.bool true) ∧ Below w.heap.size w w' := by
  go_enter Try.func4, Try.ntmps4
  go_wp2_with fail
  refine (bytesB_any b off n cap N K S _ h hm hN).mono ?_
  rintro e w1 ⟨hr, rfl⟩
  rcases hr with rfl | ⟨rfl, _⟩
  · go_wp2
    go_ret
    exact ⟨rfl, Below.refl _ _⟩
  go_wp2_with fail
  refine (queueOK_any b off n cap N K S _ h hm hN).mono ?_
  rintro e w1 ⟨hr, rfl⟩
  rcases hr with rfl | ⟨rfl, hn⟩
  · go_wp2
    go_ret
    exact ⟨rfl, Below.refl _ _⟩
  have hn' : (n : Int) ≤ 4096 := by omega
  have h0' : ((n : Int) == 0) = false := by rw [beq_eq_false_iff_ne]; omega
  have h00 : (0 : Int) < (n : Int) := by omega
  have hk0 := h.kind 0 h0
  rw [Nat.zero_mul, Nat.add_zero] at hk0
  clear hm hN
  go_wp2_with fail
  refine (zzKinds_any (K 0) _).mono ?_
  rintro e w2 ⟨m, Z, rfl, hm2, hb2, hs2, hZ, hKs⟩
  have HB2 : Hid (Below w1.heap.size w1 w2) := hb2
  have HZ : Hid (∀ j, j < m → w2.cell? ⟨w1.heap.size, j, none⟩ = some (.int .i64 (Z j))) := hZ
  have HKs : Hid (((K 0 = 1 ∨ K 0 = 2) ∧ ∀ x : Int, (∃ j, j < m ∧ Z j = x) → x = 1 ∨ x = 2) ∨ (K 0 ≠ 1 ∧ K 0 ≠ 2 ∧ ∀ x : Int, (∃ j, j < m ∧ Z j = x) → x = K 0)) := hKs
  have HR2 : Hid (Row3 w2 b off n N K S) := h.below hb2 hb
  have hb2' : b < w2.heap.size := by omega
  clear hb2 hZ hKs h hk0
  go_wp2
  go_loop [4] (fun j => ∃ jj : Nat, j = .int .i64 (jj : Int) ∧ jj ≤ n ∧ ∀ l, l < jj → ∃ t, t < m ∧ Z t = K l) (fun j => n - (intOf j).toNat)
  case atStart => exact ⟨0, rfl, Nat.zero_le _, fun l hl => absurd hl (by omega)⟩
  case round =>
    obtain ⟨jj, rfl, hj, hall⟩ := hrel
    have HALL : Hid (∀ l, l < jj → ∃ t, t < m ∧ Z t = K l) := hall
    clear hall
    by_cases hlt : jj < n
    · have hlt' : (jj : Int) < (n : Int) := by omega
      have hcj := HR2.out.kind jj hlt
      go_wp2_with fail
      refine (kindIn_any (K jj) w1.heap.size m Z _ hm2 HZ.out).mono ?_
      rintro e w' ⟨hr, rfl⟩
      rcases hr with rfl | ⟨rfl, hin⟩
      · go_wp2
        go_ret
        exact ⟨rfl, HB2.out⟩
      · have HIN : Hid (∀ l, l < jj + 1 → ∃ t, t < m ∧ Z t = K l) := by
          intro l hl
          by_cases e : l = jj
          · subst e; exact hin
          · exact HALL.out l (by omega)
        clear hin
        go_wp2
        go_round
        case rel => exact ⟨jj + 1, by go_num, by omega, HIN.out⟩
        case measure => simp [intOf]; omega
    · obtain rfl : jj = n := by omega
      have HONE : Hid (Ahead.One K jj) := one_of HKs.out HALL.out
      have hlt' : ¬ (jj : Int) < (jj : Int) := by omega
      clear HALL HKs HZ hlt
      go_wp2_with fail
      refine (toProject_any b off jj cap N K S _ HR2.out hb2' hn).mono ?_
      rintro e w3 ⟨rfl, htp⟩
      have hsz3 := htp.size
      have HB3 : Hid (Below w1.heap.size w1 w3) := HB2.out.trans (htp.below.mono (Nat.le_of_lt hs2))
      have HR3 : Hid (Row3 w3 b off jj N K S) := HR2.out.below htp.below hb2'
      have HD3 : Hid (Row3 w3 w2.heap.size 0 jj N K S) := htp.done
      clear htp HR2 HB2 hlt' hj
      go_wp2
      go_loopw [7, 8, 9, 10] (fun ho nr pe ii wr => ∃ (i h : Nat) (nb pb : Bool), ho = .int .i64 (h : Int) ∧ nr = .bool nb ∧ pe = .bool pb ∧ ii = .int .i64 (i : Int) ∧ i ≤ jj ∧ h ≤ i ∧ Ahead.Inv K i h nb pb ∧ Below w3.heap.size w3 wr) (fun _ _ _ ii _ => jj - (intOf ii).toNat)
      case atStart => exact ⟨0, 0, false, false, rfl, rfl, rfl, rfl, Nat.zero_le _, Nat.le_refl _, Or.inl ⟨rfl, rfl, rfl, rfl⟩, Below.refl _ _⟩
      case round =>
        obtain ⟨i, h, nb, pb, rfl, rfl, rfl, rfl, hi, hh, hinv, hbr⟩ := hrel
        have HINV : Hid (Ahead.Inv K i h nb pb) := hinv
        have HBR : Hid (Below w3.heap.size w3 wr) := hbr
        have hszr := hbr.size
        clear hinv hbr
        by_cases hlt : i < jj
        · have hlt' : (i : Int) < (jj : Int) := by omega
          go_wp2_with fail
          refine (zzAhead_any _ jj i N K S _ (HD3.out.below HBR.out hsz3) (by omega) hn hlt).mono ?_
          rintro e w4 ⟨rfl, hb4⟩
          have HB4 : Hid (Below w3.heap.size w3 w4) := HBR.out.trans (hb4.mono hszr)
          have HS4 : Hid (w3.heap.size ≤ w4.heap.size) := HB4.out.size
          have hck : w4.cell? ⟨b, off + i * 3 + 1, none⟩ = some (.int .i64 (K i)) := (HB4.out.cell (by show b < w3.heap.size; omega)).trans (HR3.out.kind i hlt)
          have hbn : b < w4.heap.size := by have := HS4.out; omega
          clear hb4
          cases ho : Ahead.ahead K i with
          | none =>
            obtain ⟨hpe, hinv⟩ := Ahead.inv_hold HONE.out hlt HINV.out ho
            subst hpe
            have HI : Hid (Ahead.Inv K (i + 1) (h + 1) (nb || decide (K i ≠ 1)) false) := hinv
            clear ho hinv
            simp only [agg3, Option.isSome_none]
            by_cases hr : K i = 1
            · have hr' : (K i != 1) = false := by simp [hr]
              have HE : Hid ((nb || decide (K i ≠ 1)) = nb) := by
                show (nb || decide (K i ≠ 1)) = nb
                simp [hr]
              clear hr
              go_wp2
              go_roundw
              case rel => exact ⟨i + 1, h + 1, nb, false, by go_num, rfl, rfl, by go_num, by omega, by omega, by have := HI.out; rw [HE.out] at this; exact this, HB4.out.alloc HS4.out _⟩
              case measure => simp [intOf]; omega
            · have hr' : (K i != 1) = true := by simp [hr]
              have HE : Hid ((nb || decide (K i ≠ 1)) = true) := by
                show (nb || decide (K i ≠ 1)) = true
                simp [hr]
              clear hr
              go_wp2
              go_roundw
              case rel => exact ⟨i + 1, h + 1, true, false, by go_num, rfl, rfl, by go_num, by omega, by omega, by have := HI.out; rw [HE.out] at this; exact this, HB4.out.alloc HS4.out _⟩
              case measure => simp [intOf]; omega
          | some j =>
            obtain ⟨hi1, hinv⟩ := Ahead.inv_wait HINV.out (by rw [ho]; simp)
            have HI : Hid (Ahead.Inv K (i + 1) h nb true) := hinv
            have hi0 : ((i : Int) == 0) = false := by rw [beq_eq_false_iff_ne]; omega
            clear ho hinv
            simp only [agg3, Option.isSome_some]
            go_wp2
            go_roundw
            case rel => exact ⟨i + 1, h, nb, true, rfl, rfl, rfl, by go_num, by omega, by omega, HI.out, HB4.out.alloc HS4.out _⟩
            case measure => simp [intOf]; omega
        · obtain rfl : i = jj := by omega
          obtain ⟨e1, e2⟩ := Ahead.inv_end h0 HINV.out
          have hlt' : ¬ (i : Int) < (i : Int) := by omega
          have he1 : ((h : Int) == 0) = false := by rw [beq_eq_false_iff_ne]; omega
          have HB5 : Hid (Below w1.heap.size w1 wr) := HB3.out.trans (HBR.out.mono HB3.out.size)
          cases nb
          · clear e2
            go_wp2
            go_ret
            exact ⟨rfl, HB5.out⟩
          · have hh1 : h = 1 := e2 rfl
            subst hh1
            clear e2
            go_wp2
            go_ret
            exact ⟨rfl, HB5.out⟩
end Go.Proofs.Qxb6603764a
