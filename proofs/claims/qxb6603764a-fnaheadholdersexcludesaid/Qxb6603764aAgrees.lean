import Derived.Test.Qxb6603764aZZ
namespace Go.Proofs.Qxb6603764a
open Go.RowKit

theorem bytesA_any (b off n cap : Nat) (N : Nat → ByteArray) (K S : Nat → Int) (i : Int) (w : World) (h : Row3 w b off n N K S) (hm : n ≤ maxLen) (hN : ∀ i, i < n → (N i).size ≤ maxLen) :
    Calls Try.prog 6 #[.slice (some ⟨b, off, none⟩) n cap, .int .i64 i] w fun e w' => Guard True w e w' := by
  by_cases hn : n ≤ 1048576
  · exact bytesA_row b off n cap N K S i w h hn hN
  · exact bytesA_long _ n cap i w (by omega) hm
theorem bytesB_any (b off n cap : Nat) (N : Nat → ByteArray) (K S : Nat → Int) (w : World) (h : Row3 w b off n N K S) (hm : n ≤ maxLen) (hN : ∀ i, i < n → (N i).size ≤ maxLen) :
    Calls Try.prog 11 #[.slice (some ⟨b, off, none⟩) n cap] w fun e w' => Guard True w e w' := by
  by_cases hn : n ≤ 1048576
  · exact bytesB_row b off n cap N K S w h hn hN
  · exact bytesB_long _ n cap w (by omega) hm
theorem queueOK_any (b off n cap : Nat) (N : Nat → ByteArray) (K S : Nat → Int) (w : World) (h : Row3 w b off n N K S) (hm : n ≤ maxLen) (hN : ∀ i, i < n → (N i).size ≤ maxLen) :
    Calls Try.prog 7 #[.slice (some ⟨b, off, none⟩) n cap] w fun e w' => Guard (n ≤ 4096) w e w' := by
  by_cases hn : n ≤ 4096
  · exact queueOK_row b off n cap N K S w h hn hN
  · exact queueOK_long _ n cap w (by omega) hm

theorem below_call {w1 w3 w4 : World} {o : Obj} (h : Below w1.heap.size w1 w3) (h4 : Below (w3.alloc o).heap.size (w3.alloc o) w4) : Below w1.heap.size w1 w4 := by
  have hs := h.size
  refine (h.alloc hs o).trans (h4.mono ?_)
  simp
  omega

set_option maxHeartbeats 1000000 in
theorem agrees_zero (ao : Option Addr) (cap : Nat) (i : Int) (w : World) :
    Calls Try.prog 3 #[.slice ao 0 cap, .int .i64 i] w fun e w' => e = .returned (.bool true) ∧ Below w.heap.size w w' := by
  go_enter Try.func3, Try.ntmps3
  go_wp2_with fail
  refine (bytesA_zero ao cap i _).mono ?_
  rintro e w1 ⟨hr, rfl⟩
  rcases hr with rfl | ⟨rfl, _⟩
  · go_wp2
    go_ret
    exact ⟨rfl, Below.refl _ _⟩
  · go_wp2_with fail
    refine (queueOK_zero ao cap _).mono ?_
    rintro e w1 ⟨hr, rfl⟩
    rcases hr with rfl | ⟨rfl, _⟩
    · go_wp2
      go_ret
      exact ⟨rfl, Below.refl _ _⟩
    · by_cases hi : i < 0
      · go_wp2
        go_ret
        exact ⟨rfl, Below.refl _ _⟩
      · go_wp2
        go_ret
        exact ⟨rfl, Below.refl _ _⟩

set_option maxHeartbeats 2000000 in
theorem agrees_row (b off n cap : Nat) (N : Nat → ByteArray) (K S : Nat → Int) (i : Int) (w : World) (h : Row3 w b off n N K S) (hb : b < w.heap.size) (hm : n ≤ maxLen) (hN : ∀ i, i < n → (N i).size ≤ maxLen) :
    Calls Try.prog 3 #[.slice (some ⟨b, off, none⟩) n cap, .int .i64 i] w fun e w' => e = .returned (.bool true) ∧ Below w.heap.size w w' := by
  go_enter Try.func3, Try.ntmps3
  go_wp2_with fail
  refine (bytesA_any b off n cap N K S i _ h hm hN).mono ?_
  rintro e w1 ⟨hr, rfl⟩
  rcases hr with rfl | ⟨rfl, _⟩
  · go_wp2
    go_ret
    exact ⟨rfl, Below.refl _ _⟩
  go_wp2_with fail
  refine (queueOK_any b off n cap N K S _ h hm hN).mono ?_
  rintro e w1 ⟨hr, rfl⟩
  rcases hr with rfl | ⟨rfl, hn⟩
  · go_wp2
    go_ret
    exact ⟨rfl, Below.refl _ _⟩
  have hn' : (n : Int) ≤ 4096 := by omega
  by_cases hi0 : i < 0
  · go_wp2
    go_ret
    exact ⟨rfl, Below.refl _ _⟩
  by_cases hin : (n : Int) ≤ i
  · go_wp2
    go_ret
    exact ⟨rfl, Below.refl _ _⟩
  obtain ⟨k, rfl⟩ := Int.eq_ofNat_of_zero_le (show 0 ≤ i by omega)
  have hkn : k < n := by omega
  clear hm hN
  go_wp2_with fail
  refine (toProject_any b off n cap N K S _ h hb hn).mono ?_
  rintro e w2 ⟨rfl, htp⟩
  have hsz2 := htp.size
  have HB2 : Hid (Below w1.heap.size w1 w2) := htp.below
  go_wp2_with fail
  refine (zzAhead_any _ n k N K S _ htp.done hsz2 hn hkn).mono ?_
  rintro e w3 ⟨rfl, hb3⟩
  have HB3 : Hid (Below w1.heap.size w1 w3) := HB2.out.trans (hb3.mono (Nat.le_of_lt hsz2))
  clear hb3 htp
  cases ho : Ahead.ahead K k with
  | none =>
    have HO : Hid (Ahead.ahead K k = none) := ho
    clear ho
    simp only [agg3, Option.isSome_none]
    go_wp2_with fail
    refine (fields_any ⟨#[]⟩ 0 0 _).mono ?_
    rintro e w4 ⟨rfl, hb4⟩
    have HB4 : Hid (Below w1.heap.size w1 w4) := below_call HB3.out hb4
    have hrow : Row3 w4 b off n N K S := h.below HB4.out hb
    have HH : Hid (Row3 w4 b off n N K S) := hrow
    clear hb4 hrow h HB3
    have hck := HH.out.kind k hkn
    by_cases hr : K k = 1
    · have HSC : Hid (Ahead.scan K k = none) := by
        have := HO.out
        unfold Ahead.ahead at this
        rw [if_pos hr] at this
        exact this
      rw [hr] at hck
      clear hr
      go_wp2
      go_loop [13, 14] (fun want jj => ∃ m : Nat, jj = .int .i64 (m : Int) ∧ m ≤ k ∧ want = .int .i64 (Ahead.enc (Ahead.scan K m))) (fun _ jj => k - (intOf jj).toNat)
      case atStart => exact ⟨0, rfl, Nat.zero_le _, rfl⟩
      case round =>
        obtain ⟨m, rfl, hm, rfl⟩ := hrel
        by_cases hmk : m < k
        · have hmk' : (m : Int) < (k : Int) := by omega
          have hmn : (m : Int) < (n : Int) := by omega
          have hcm := HH.out.kind m (by omega)
          by_cases h2 : K m = 2
          · have HE : Hid (Ahead.enc (Ahead.scan K (m + 1)) = (m : Int)) := by
              show Ahead.enc (Ahead.scan K (m + 1)) = (m : Int)
              rw [Ahead.scan_hit h2]; rfl
            have h2' : (K m == 2) = true := by simpa using h2
            clear h2
            generalize Ahead.enc (Ahead.scan K m) = wt at *
            go_wp2
            go_round
            case rel => exact ⟨m + 1, by go_num, by omega, by rw [HE.out]⟩
            case measure => simp [intOf]; omega
          · have HE : Hid (Ahead.enc (Ahead.scan K (m + 1)) = Ahead.enc (Ahead.scan K m)) := by
              show Ahead.enc (Ahead.scan K (m + 1)) = Ahead.enc (Ahead.scan K m)
              rw [Ahead.scan_miss h2]
            have h2' : (K m == 2) = false := by simpa using h2
            clear h2
            generalize Ahead.enc (Ahead.scan K m) = wt at *
            go_wp2
            go_round
            case rel => exact ⟨m + 1, by go_num, by omega, by rw [HE.out]⟩
            case measure => simp [intOf]; omega
        · obtain rfl : m = k := by omega
          have hmk' : ¬ (m : Int) < (m : Int) := by omega
          rw [HSC.out]
          simp only [Ahead.enc]
          go_wp2
          go_ret
          exact ⟨rfl, HB4.out⟩
    · have hr' : (K k == 1) = false := by simpa using hr
      have hk0 : k = 0 := by
        have := HO.out
        unfold Ahead.ahead at this
        rw [if_neg hr] at this
        split at this
        · assumption
        · cases this
      subst hk0
      clear hr
      go_wp2
      go_ret
      exact ⟨rfl, HB4.out⟩
  | some j =>
    have HO : Hid (Ahead.ahead K k = some j) := ho
    clear ho
    simp only [agg3, Option.isSome_some]
    go_wp2_with fail
    refine (fields_any (N j) (K j) (S j) _).mono ?_
    rintro e w4 ⟨rfl, hb4⟩
    have HB4 : Hid (Below w1.heap.size w1 w4) := below_call HB3.out hb4
    have hrow : Row3 w4 b off n N K S := h.below HB4.out hb
    have HH : Hid (Row3 w4 b off n N K S) := hrow
    clear hb4 hrow h HB3
    have hck := HH.out.kind k hkn
    have hjk := Ahead.ahead_lt HO.out
    have hjn : (j : Int) < (n : Int) := by omega
    have dn := HH.out.name j (by omega)
    have dk := HH.out.kind j (by omega)
    have ds := HH.out.seq j (by omega)
    by_cases hr : K k = 1
    · have HSC : Hid (Ahead.scan K k = some j) := by
        have := HO.out
        unfold Ahead.ahead at this
        rw [if_pos hr] at this
        exact this
      rw [hr] at hck
      clear hr
      go_wp2
      go_loop [13, 14] (fun want jj => ∃ m : Nat, jj = .int .i64 (m : Int) ∧ m ≤ k ∧ want = .int .i64 (Ahead.enc (Ahead.scan K m))) (fun _ jj => k - (intOf jj).toNat)
      case atStart => exact ⟨0, rfl, Nat.zero_le _, rfl⟩
      case round =>
        obtain ⟨m, rfl, hm, rfl⟩ := hrel
        by_cases hmk : m < k
        · have hmk' : (m : Int) < (k : Int) := by omega
          have hmn : (m : Int) < (n : Int) := by omega
          have hcm := HH.out.kind m (by omega)
          by_cases h2 : K m = 2
          · have HE : Hid (Ahead.enc (Ahead.scan K (m + 1)) = (m : Int)) := by
              show Ahead.enc (Ahead.scan K (m + 1)) = (m : Int)
              rw [Ahead.scan_hit h2]; rfl
            have h2' : (K m == 2) = true := by simpa using h2
            clear h2
            generalize Ahead.enc (Ahead.scan K m) = wt at *
            go_wp2
            go_round
            case rel => exact ⟨m + 1, by go_num, by omega, by rw [HE.out]⟩
            case measure => simp [intOf]; omega
          · have HE : Hid (Ahead.enc (Ahead.scan K (m + 1)) = Ahead.enc (Ahead.scan K m)) := by
              show Ahead.enc (Ahead.scan K (m + 1)) = Ahead.enc (Ahead.scan K m)
              rw [Ahead.scan_miss h2]
            have h2' : (K m == 2) = false := by simpa using h2
            clear h2
            generalize Ahead.enc (Ahead.scan K m) = wt at *
            go_wp2
            go_round
            case rel => exact ⟨m + 1, by go_num, by omega, by rw [HE.out]⟩
            case measure => simp [intOf]; omega
        · obtain rfl : m = k := by omega
          have hmk' : ¬ (m : Int) < (m : Int) := by omega
          rw [HSC.out]
          simp only [Ahead.enc]
          go_wp2
          go_ret
          exact ⟨rfl, HB4.out⟩
    · have hr' : (K k == 1) = false := by simpa using hr
      have hkj : k = j + 1 := by
        have := HO.out
        unfold Ahead.ahead at this
        rw [if_neg hr] at this
        split at this
        · cases this
        · cases this; omega
      have hk1 : (0 : Int) < (k : Int) := by omega
      have hkj' : (k : Int) - 1 = (j : Int) := by omega
      clear hr hkj
      go_wp2
      go_ret
      exact ⟨rfl, HB4.out⟩
end Go.Proofs.Qxb6603764a
