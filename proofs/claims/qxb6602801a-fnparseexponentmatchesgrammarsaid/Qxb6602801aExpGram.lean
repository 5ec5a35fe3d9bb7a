import Derived.Test.Qxb6602801aExpAny
namespace Go.Proofs.Qxb6602801a
open Go.RowKit

theorem mem_drop (s : ByteArray) (a k : Nat) (ha : a ≤ k) (hk : k < s.size) : s[k] ∈ s.data.toList.drop a := by
  have h1 : s[k] ∈ s.data.toList.drop k := by rw [drop_cons s k hk]; exact List.mem_cons_self
  have e : s.data.toList.drop k = (s.data.toList.drop a).drop (k - a) := by rw [List.drop_drop]; congr 1; omega
  rw [e] at h1
  exact List.mem_of_mem_drop h1

set_option maxHeartbeats 400000 in
theorem gram_empty (s : ByteArray) (w : World) (hs : s.size = 0) :
    Calls Try.prog 10 #[.string s] w fun e w' => e = .returned (.tuple #[.int .i64 0, .bool false]) ∧ w' = w := by
  have h0 : ((s.size : Nat) : Int) ≤ 0 := by omega
  have h0' : ¬ (0 : Int) < ((s.size : Nat) : Int) := by omega
  go_enter Try.func10, Try.ntmps10
  go_wp2
  go_ret2
  exact ⟨rfl, rfl⟩

set_option maxHeartbeats 400000 in
theorem gram_plain_long (s : ByteArray) (w : World) (hmx : s.size ≤ 1048576) (hs : 4 < s.size) (h1 : ((s[0].toNat : Int) == 43) = false) (h2 : ((s[0].toNat : Int) == 45) = false) :
    Calls Try.prog 10 #[.string s] w fun e w' => e = .returned (.tuple #[.int .i64 0, .bool false]) ∧ w' = w := by
  have h0 : (4 : Int) < ((s.size : Nat) : Int) := by omega
  have hmx' : ((s.size : Nat) : Int) ≤ 1048576 := by omega
  go_enter Try.func10, Try.ntmps10
  go_wp2
  go_ret2
  exact ⟨rfl, rfl⟩

set_option maxHeartbeats 400000 in
theorem gram_plus_bad (s : ByteArray) (w : World) (hmx : s.size ≤ 1048576) (hs : 0 < s.size) (h1 : ((s[0].toNat : Int) == 43) = true) (hb : s.size - 1 = 0 ∨ 4 < s.size - 1) :
    Calls Try.prog 10 #[.string s] w fun e w' => e = .returned (.tuple #[.int .i64 0, .bool false]) ∧ w' = w := by
  have hmx' : ((s.size : Nat) : Int) ≤ 1048576 := by omega
  have hs' : (0 : Int) < ((s.size : Nat) : Int) := by omega
  rcases hb with hb | hb
  · have h3 : ((s.size : Nat) : Int) - 1 < 1 := by omega
    clear hb
    go_enter Try.func10, Try.ntmps10
    go_wp2
    go_ret2
    exact ⟨rfl, rfl⟩
  · have h3 : (4 : Int) < ((s.size : Nat) : Int) - 1 := by omega
    have h4 : ¬ ((s.size : Nat) : Int) - 1 < 1 := by omega
    clear hb
    go_enter Try.func10, Try.ntmps10
    go_wp2
    go_ret2
    exact ⟨rfl, rfl⟩

set_option maxHeartbeats 400000 in
theorem gram_minus_bad (s : ByteArray) (w : World) (hmx : s.size ≤ 1048576) (hs : 0 < s.size) (h1 : ((s[0].toNat : Int) == 45) = true) (hb : s.size - 1 = 0 ∨ 4 < s.size - 1) :
    Calls Try.prog 10 #[.string s] w fun e w' => e = .returned (.tuple #[.int .i64 0, .bool false]) ∧ w' = w := by
  have hmx' : ((s.size : Nat) : Int) ≤ 1048576 := by omega
  have hs' : (0 : Int) < ((s.size : Nat) : Int) := by omega
  have h2 : ((s[0].toNat : Int) == 43) = false := by rw [beq_iff_eq] at h1; rw [h1]; decide
  rcases hb with hb | hb
  · have h3 : ((s.size : Nat) : Int) - 1 < 1 := by omega
    clear hb
    go_enter Try.func10, Try.ntmps10
    go_wp2
    go_ret2
    exact ⟨rfl, rfl⟩
  · have h3 : (4 : Int) < ((s.size : Nat) : Int) - 1 := by omega
    have h4 : ¬ ((s.size : Nat) : Int) - 1 < 1 := by omega
    clear hb
    go_enter Try.func10, Try.ntmps10
    go_wp2
    go_ret2
    exact ⟨rfl, rfl⟩

set_option maxHeartbeats 1000000 in
theorem gram_plain (s : ByteArray) (w : World) (hs1 : 0 < s.size) (h4 : s.size ≤ 4) (h1 : ((s[0].toNat : Int) == 43) = false) (h2 : ((s[0].toNat : Int) == 45) = false) :
    Calls Try.prog 10 #[.string s] w fun e w' => e = .returned (.tuple #[.int .i64 (ExpPlain.pe s.data.toList).1, .bool (ExpPlain.pe s.data.toList).2]) ∧ w' = w := by
  have hs : 0 ≤ s.size := Nat.zero_le _
  have hss : (0 : Int) < ((s.size : Nat) : Int) := by omega
  have hss1 : ¬ ((s.size : Nat) : Int) < 1 := by omega
  have hss4 : ((s.size : Nat) : Int) ≤ 4 := by omega
  have HP : Hid (ExpPlain.pe s.data.toList = ExpPlain.core false (s.data.toList.drop 0)) := pe_plain s hs1 h1 h2
  go_enter Try.func10, Try.ntmps10
  go_wp2
  go_loop [6, 7, 8] (fun v u j => ∃ (m : Nat) (jj vv uu : Int), 0 ≤ m ∧ m ≤ s.size ∧ jj + 1 = (m : Int) ∧ j = .int .i64 jj ∧ v = .int .i64 vv ∧ u = .int .i64 uu ∧ vv = ExpPlain.val (s.data.toList.drop m) ∧ uu = ExpPlain.tp (s.size - m) ∧ (s.data.toList.drop m).all ExpPlain.isDig = true) (fun _ _ j => (intOf j + 1).toNat)
  case atStart =>
    refine ⟨s.size, _, _, _, hs, Nat.le_refl _, ?_, rfl, rfl, rfl, ?_, ?_, ?_⟩
    · omega
    · rw [List.drop_of_length_le (by rw [len_toList]; exact Nat.le_refl _)]; rfl
    · rw [Nat.sub_self]; rfl
    · rw [List.drop_of_length_le (by rw [len_toList]; exact Nat.le_refl _)]; rfl
  case round =>
    obtain ⟨m, jj, vv, uu, hm0, hm1, hj, rfl, rfl, rfl, hv, hu, hall⟩ := hrel
    have hvb := ExpPlain.val_bd _ hall
    have hle : (s.data.toList.drop m).length = s.size - m := by rw [List.length_drop, len_toList]
    have htb := tp_le4 (s.size - m) (by omega)
    have hvv : 0 ≤ vv ∧ vv < 10000 := by
      rw [hle] at hvb
      have : vv < ExpPlain.tp (s.size - m) := by rw [hv]; exact hvb.2
      have h0 : 0 ≤ vv := by rw [hv]; exact hvb.1
      omega
    obtain ⟨hv0, hv1⟩ := hvv
    clear hvb hle
    by_cases hlt : 0 < m
    · obtain ⟨k, rfl⟩ : ∃ k, m = k + 1 := ⟨m - 1, by omega⟩
      obtain rfl : jj = (k : Int) := by omega
      have hk : k < s.size := by omega
      have hdc := drop_cons s k hk
      have htl := ExpPlain.tp_le (s.size - (k + 1)) (by omega)
      have hts := ExpPlain.tp_succ (s.size - (k + 1))
      have hse : s.size - (k + 1) + 1 = s.size - k := by omega
      rw [hse] at hts
      by_cases hd : ExpPlain.isDig s[k] = true
      · have hb : 48 ≤ s[k].toNat ∧ s[k].toNat ≤ 57 := by simpa [ExpPlain.isDig] using hd
        have hb1 : (48 : Int) ≤ (s[k].toNat : Int) := by omega
        have hb2 : (s[k].toNat : Int) ≤ 57 := by omega
        have hu0 : 1 ≤ uu ∧ uu ≤ 1000 := by rw [hu]; exact htl
        obtain ⟨hu1, hu2⟩ := hu0
        have hp0 : 0 ≤ ((s[k].toNat : Int) - 48) * uu := Int.mul_nonneg (by omega) (by omega)
        have hp1 : ((s[k].toNat : Int) - 48) * uu ≤ 9 * 1000 := Int.mul_le_mul (by omega) hu2 (by omega) (by omega)
        have HV : Hid (vv + ((s[k].toNat : Int) - 48) * uu = ExpPlain.val (s.data.toList.drop k)) := by
          show vv + ((s[k].toNat : Int) - 48) * uu = ExpPlain.val (s.data.toList.drop k)
          rw [hdc, ExpPlain.val, List.length_drop, len_toList, hv, hu]
          show _ = ((s[k].toNat : Int) - 48) * ExpPlain.tp (s.size - (k + 1)) + _
          omega
        have HU : Hid (uu * 10 = ExpPlain.tp (s.size - k)) := by
          show uu * 10 = ExpPlain.tp (s.size - k)
          rw [hts, hu]; omega
        have HA : Hid ((s.data.toList.drop k).all ExpPlain.isDig = true) := by
          show (s.data.toList.drop k).all ExpPlain.isDig = true
          rw [hdc, List.all_cons, hd, hall]; rfl
        clear hv hu hall hts hse hdc htl hb hd hj htb
        go_wp2
        go_round
        case rel => exact ⟨k, (k : Int) - 1, _, _, by omega, by omega, by omega, by go_num, rfl, rfl, HV.out, HU.out, HA.out⟩
        case measure => simp [intOf]
      · have hd' : ExpPlain.isDig s[k] = false := by simpa using hd
        have hb : (s[k].toNat : Int) < 48 ∨ 57 < (s[k].toNat : Int) := by
          simp [ExpPlain.isDig] at hd'
          omega
        have HS : Hid (ExpPlain.pe s.data.toList = (0, false)) := by
          show ExpPlain.pe s.data.toList = (0, false)
          rw [HP.out]
          refine ExpPlain.core_nondig (c := s[k]) ?_ hd'
          exact mem_drop s 0 k (by omega) hk
        clear hv hu hall hts hse hdc htl hd hd' hj htb
        rcases hb with hb | hb
        · go_wp2
          go_ret2
          exact ⟨ret_pair HS.out, rfl⟩
        · have hb' : ¬ (s[k].toNat : Int) < 48 := by omega
          go_wp2
          go_ret2
          exact ⟨ret_pair HS.out, rfl⟩
    · obtain rfl : m = 0 := by omega
      obtain rfl : jj = (-1 : Int) := by omega
      have HS : Hid (ExpPlain.pe s.data.toList = (vv, true)) := by
        show ExpPlain.pe s.data.toList = (vv, true)
        rw [HP.out, ExpPlain.core_val (by rw [List.length_drop, len_toList]; omega) (by rw [List.length_drop, len_toList]; omega) hall, hv]
        rfl
      clear hv hu hall hj htb
      go_wp2
      go_ret2
      exact ⟨ret_pair HS.out, rfl⟩

set_option maxHeartbeats 1000000 in
theorem gram_plus (s : ByteArray) (w : World) (hs1 : 1 < s.size) (h4 : s.size ≤ 5) (h1 : ((s[0].toNat : Int) == 43) = true) :
    Calls Try.prog 10 #[.string s] w fun e w' => e = .returned (.tuple #[.int .i64 (ExpPlain.pe s.data.toList).1, .bool (ExpPlain.pe s.data.toList).2]) ∧ w' = w := by
  have hs : 1 ≤ s.size := by omega
  have hss : (0 : Int) < ((s.size : Nat) : Int) := by omega
  have hss1 : ¬ ((s.size : Nat) : Int) - 1 < 1 := by omega
  have hss4 : ((s.size : Nat) : Int) - 1 ≤ 4 := by omega
  have hneg : ((s[0].toNat : Int) == 45) = false := by rw [beq_iff_eq] at h1; rw [h1]; decide
  have HP : Hid (ExpPlain.pe s.data.toList = ExpPlain.core false (s.data.toList.drop 1)) := pe_plus s (by omega) h1
  go_enter Try.func10, Try.ntmps10
  go_wp2
  go_loop [6, 7, 8] (fun v u j => ∃ (m : Nat) (jj vv uu : Int), 1 ≤ m ∧ m ≤ s.size ∧ jj + 1 = (m : Int) ∧ j = .int .i64 jj ∧ v = .int .i64 vv ∧ u = .int .i64 uu ∧ vv = ExpPlain.val (s.data.toList.drop m) ∧ uu = ExpPlain.tp (s.size - m) ∧ (s.data.toList.drop m).all ExpPlain.isDig = true) (fun _ _ j => (intOf j + 1).toNat)
  case atStart =>
    refine ⟨s.size, _, _, _, hs, Nat.le_refl _, ?_, rfl, rfl, rfl, ?_, ?_, ?_⟩
    · omega
    · rw [List.drop_of_length_le (by rw [len_toList]; exact Nat.le_refl _)]; rfl
    · rw [Nat.sub_self]; rfl
    · rw [List.drop_of_length_le (by rw [len_toList]; exact Nat.le_refl _)]; rfl
  case round =>
    obtain ⟨m, jj, vv, uu, hm0, hm1, hj, rfl, rfl, rfl, hv, hu, hall⟩ := hrel
    have hvb := ExpPlain.val_bd _ hall
    have hle : (s.data.toList.drop m).length = s.size - m := by rw [List.length_drop, len_toList]
    have htb := tp_le4 (s.size - m) (by omega)
    have hvv : 0 ≤ vv ∧ vv < 10000 := by
      rw [hle] at hvb
      have : vv < ExpPlain.tp (s.size - m) := by rw [hv]; exact hvb.2
      have h0 : 0 ≤ vv := by rw [hv]; exact hvb.1
      omega
    obtain ⟨hv0, hv1⟩ := hvv
    clear hvb hle
    by_cases hlt : 1 < m
    · obtain ⟨k, rfl⟩ : ∃ k, m = k + 1 := ⟨m - 1, by omega⟩
      obtain rfl : jj = (k : Int) := by omega
      have hk : k < s.size := by omega
      have hdc := drop_cons s k hk
      have htl := ExpPlain.tp_le (s.size - (k + 1)) (by omega)
      have hts := ExpPlain.tp_succ (s.size - (k + 1))
      have hse : s.size - (k + 1) + 1 = s.size - k := by omega
      rw [hse] at hts
      by_cases hd : ExpPlain.isDig s[k] = true
      · have hb : 48 ≤ s[k].toNat ∧ s[k].toNat ≤ 57 := by simpa [ExpPlain.isDig] using hd
        have hb1 : (48 : Int) ≤ (s[k].toNat : Int) := by omega
        have hb2 : (s[k].toNat : Int) ≤ 57 := by omega
        have hu0 : 1 ≤ uu ∧ uu ≤ 1000 := by rw [hu]; exact htl
        obtain ⟨hu1, hu2⟩ := hu0
        have hp0 : 0 ≤ ((s[k].toNat : Int) - 48) * uu := Int.mul_nonneg (by omega) (by omega)
        have hp1 : ((s[k].toNat : Int) - 48) * uu ≤ 9 * 1000 := Int.mul_le_mul (by omega) hu2 (by omega) (by omega)
        have HV : Hid (vv + ((s[k].toNat : Int) - 48) * uu = ExpPlain.val (s.data.toList.drop k)) := by
          show vv + ((s[k].toNat : Int) - 48) * uu = ExpPlain.val (s.data.toList.drop k)
          rw [hdc, ExpPlain.val, List.length_drop, len_toList, hv, hu]
          show _ = ((s[k].toNat : Int) - 48) * ExpPlain.tp (s.size - (k + 1)) + _
          omega
        have HU : Hid (uu * 10 = ExpPlain.tp (s.size - k)) := by
          show uu * 10 = ExpPlain.tp (s.size - k)
          rw [hts, hu]; omega
        have HA : Hid ((s.data.toList.drop k).all ExpPlain.isDig = true) := by
          show (s.data.toList.drop k).all ExpPlain.isDig = true
          rw [hdc, List.all_cons, hd, hall]; rfl
        clear hv hu hall hts hse hdc htl hb hd hj htb
        go_wp2
        go_round
        case rel => exact ⟨k, (k : Int) - 1, _, _, by omega, by omega, by omega, by go_num, rfl, rfl, HV.out, HU.out, HA.out⟩
        case measure => simp [intOf]
      · have hd' : ExpPlain.isDig s[k] = false := by simpa using hd
        have hb : (s[k].toNat : Int) < 48 ∨ 57 < (s[k].toNat : Int) := by
          simp [ExpPlain.isDig] at hd'
          omega
        have HS : Hid (ExpPlain.pe s.data.toList = (0, false)) := by
          show ExpPlain.pe s.data.toList = (0, false)
          rw [HP.out]
          refine ExpPlain.core_nondig (c := s[k]) ?_ hd'
          exact mem_drop s 1 k (by omega) hk
        clear hv hu hall hts hse hdc htl hd hd' hj htb
        rcases hb with hb | hb
        · go_wp2
          go_ret2
          exact ⟨ret_pair HS.out, rfl⟩
        · have hb' : ¬ (s[k].toNat : Int) < 48 := by omega
          go_wp2
          go_ret2
          exact ⟨ret_pair HS.out, rfl⟩
    · obtain rfl : m = 1 := by omega
      obtain rfl : jj = (0 : Int) := by omega
      have HS : Hid (ExpPlain.pe s.data.toList = (vv, true)) := by
        show ExpPlain.pe s.data.toList = (vv, true)
        rw [HP.out, ExpPlain.core_val (by rw [List.length_drop, len_toList]; omega) (by rw [List.length_drop, len_toList]; omega) hall, hv]
        rfl
      clear hv hu hall hj htb
      go_wp2
      go_ret2
      exact ⟨ret_pair HS.out, rfl⟩

set_option maxHeartbeats 1000000 in
theorem gram_minus (s : ByteArray) (w : World) (hs1 : 1 < s.size) (h4 : s.size ≤ 5) (h1 : ((s[0].toNat : Int) == 45) = true) :
    Calls Try.prog 10 #[.string s] w fun e w' => e = .returned (.tuple #[.int .i64 (ExpPlain.pe s.data.toList).1, .bool (ExpPlain.pe s.data.toList).2]) ∧ w' = w := by
  have hs : 1 ≤ s.size := by omega
  have hss : (0 : Int) < ((s.size : Nat) : Int) := by omega
  have hss1 : ¬ ((s.size : Nat) : Int) - 1 < 1 := by omega
  have hss4 : ((s.size : Nat) : Int) - 1 ≤ 4 := by omega
  have hneg : ((s[0].toNat : Int) == 43) = false := by rw [beq_iff_eq] at h1; rw [h1]; decide
  have HP : Hid (ExpPlain.pe s.data.toList = ExpPlain.core true (s.data.toList.drop 1)) := pe_minus s (by omega) h1
  go_enter Try.func10, Try.ntmps10
  go_wp2
  go_loop [6, 7, 8] (fun v u j => ∃ (m : Nat) (jj vv uu : Int), 1 ≤ m ∧ m ≤ s.size ∧ jj + 1 = (m : Int) ∧ j = .int .i64 jj ∧ v = .int .i64 vv ∧ u = .int .i64 uu ∧ vv = ExpPlain.val (s.data.toList.drop m) ∧ uu = ExpPlain.tp (s.size - m) ∧ (s.data.toList.drop m).all ExpPlain.isDig = true) (fun _ _ j => (intOf j + 1).toNat)
  case atStart =>
    refine ⟨s.size, _, _, _, hs, Nat.le_refl _, ?_, rfl, rfl, rfl, ?_, ?_, ?_⟩
    · omega
    · rw [List.drop_of_length_le (by rw [len_toList]; exact Nat.le_refl _)]; rfl
    · rw [Nat.sub_self]; rfl
    · rw [List.drop_of_length_le (by rw [len_toList]; exact Nat.le_refl _)]; rfl
  case round =>
    obtain ⟨m, jj, vv, uu, hm0, hm1, hj, rfl, rfl, rfl, hv, hu, hall⟩ := hrel
    have hvb := ExpPlain.val_bd _ hall
    have hle : (s.data.toList.drop m).length = s.size - m := by rw [List.length_drop, len_toList]
    have htb := tp_le4 (s.size - m) (by omega)
    have hvv : 0 ≤ vv ∧ vv < 10000 := by
      rw [hle] at hvb
      have : vv < ExpPlain.tp (s.size - m) := by rw [hv]; exact hvb.2
      have h0 : 0 ≤ vv := by rw [hv]; exact hvb.1
      omega
    obtain ⟨hv0, hv1⟩ := hvv
    clear hvb hle
    by_cases hlt : 1 < m
    · obtain ⟨k, rfl⟩ : ∃ k, m = k + 1 := ⟨m - 1, by omega⟩
      obtain rfl : jj = (k : Int) := by omega
      have hk : k < s.size := by omega
      have hdc := drop_cons s k hk
      have htl := ExpPlain.tp_le (s.size - (k + 1)) (by omega)
      have hts := ExpPlain.tp_succ (s.size - (k + 1))
      have hse : s.size - (k + 1) + 1 = s.size - k := by omega
      rw [hse] at hts
      by_cases hd : ExpPlain.isDig s[k] = true
      · have hb : 48 ≤ s[k].toNat ∧ s[k].toNat ≤ 57 := by simpa [ExpPlain.isDig] using hd
        have hb1 : (48 : Int) ≤ (s[k].toNat : Int) := by omega
        have hb2 : (s[k].toNat : Int) ≤ 57 := by omega
        have hu0 : 1 ≤ uu ∧ uu ≤ 1000 := by rw [hu]; exact htl
        obtain ⟨hu1, hu2⟩ := hu0
        have hp0 : 0 ≤ ((s[k].toNat : Int) - 48) * uu := Int.mul_nonneg (by omega) (by omega)
        have hp1 : ((s[k].toNat : Int) - 48) * uu ≤ 9 * 1000 := Int.mul_le_mul (by omega) hu2 (by omega) (by omega)
        have HV : Hid (vv + ((s[k].toNat : Int) - 48) * uu = ExpPlain.val (s.data.toList.drop k)) := by
          show vv + ((s[k].toNat : Int) - 48) * uu = ExpPlain.val (s.data.toList.drop k)
          rw [hdc, ExpPlain.val, List.length_drop, len_toList, hv, hu]
          show _ = ((s[k].toNat : Int) - 48) * ExpPlain.tp (s.size - (k + 1)) + _
          omega
        have HU : Hid (uu * 10 = ExpPlain.tp (s.size - k)) := by
          show uu * 10 = ExpPlain.tp (s.size - k)
          rw [hts, hu]; omega
        have HA : Hid ((s.data.toList.drop k).all ExpPlain.isDig = true) := by
          show (s.data.toList.drop k).all ExpPlain.isDig = true
          rw [hdc, List.all_cons, hd, hall]; rfl
        clear hv hu hall hts hse hdc htl hb hd hj htb
        go_wp2
        go_round
        case rel => exact ⟨k, (k : Int) - 1, _, _, by omega, by omega, by omega, by go_num, rfl, rfl, HV.out, HU.out, HA.out⟩
        case measure => simp [intOf]
      · have hd' : ExpPlain.isDig s[k] = false := by simpa using hd
        have hb : (s[k].toNat : Int) < 48 ∨ 57 < (s[k].toNat : Int) := by
          simp [ExpPlain.isDig] at hd'
          omega
        have HS : Hid (ExpPlain.pe s.data.toList = (0, false)) := by
          show ExpPlain.pe s.data.toList = (0, false)
          rw [HP.out]
          refine ExpPlain.core_nondig (c := s[k]) ?_ hd'
          exact mem_drop s 1 k (by omega) hk
        clear hv hu hall hts hse hdc htl hd hd' hj htb
        rcases hb with hb | hb
        · go_wp2
          go_ret2
          exact ⟨ret_pair HS.out, rfl⟩
        · have hb' : ¬ (s[k].toNat : Int) < 48 := by omega
          go_wp2
          go_ret2
          exact ⟨ret_pair HS.out, rfl⟩
    · obtain rfl : m = 1 := by omega
      obtain rfl : jj = (0 : Int) := by omega
      have HS : Hid (ExpPlain.pe s.data.toList = (-vv, true)) := by
        show ExpPlain.pe s.data.toList = (-vv, true)
        rw [HP.out, ExpPlain.core_val (by rw [List.length_drop, len_toList]; omega) (by rw [List.length_drop, len_toList]; omega) hall, hv]
        rfl
      clear hv hu hall hj htb
      go_wp2
      go_ret2
      exact ⟨ret_pair HS.out, rfl⟩

/-- exponentGrammar at every string up to the guard's size: the same plain function as parseExponent. -/
theorem gram_any (s : ByteArray) (hmx : s.size ≤ 1048576) (w : World) :
    Calls Try.prog 10 #[.string s] w fun e w' => e = .returned (.tuple #[.int .i64 (ExpPlain.pe s.data.toList).1, .bool (ExpPlain.pe s.data.toList).2]) ∧ w' = w := by
  by_cases hs : 0 < s.size
  · have hlen := len_toList s
    by_cases h1 : ((s[0].toNat : Int) == 43) = true
    · by_cases hb : s.size - 1 = 0 ∨ 4 < s.size - 1
      · refine (gram_plus_bad s w hmx hs h1 hb).mono ?_
        rintro e w' ⟨rfl, rfl⟩
        rw [pe_plus s hs h1]
        exact ⟨ret_pair (ExpPlain.core_bad (by rw [List.length_drop, hlen]; exact hb)), rfl⟩
      · exact gram_plus s w (by omega) (by omega) h1
    · have h1' : ((s[0].toNat : Int) == 43) = false := by simpa using h1
      by_cases h2 : ((s[0].toNat : Int) == 45) = true
      · by_cases hb : s.size - 1 = 0 ∨ 4 < s.size - 1
        · refine (gram_minus_bad s w hmx hs h2 hb).mono ?_
          rintro e w' ⟨rfl, rfl⟩
          rw [pe_minus s hs h2]
          exact ⟨ret_pair (ExpPlain.core_bad (by rw [List.length_drop, hlen]; exact hb)), rfl⟩
        · exact gram_minus s w (by omega) (by omega) h2
      · have h2' : ((s[0].toNat : Int) == 45) = false := by simpa using h2
        by_cases hb : 4 < s.size
        · refine (gram_plain_long s w hmx hb h1' h2').mono ?_
          rintro e w' ⟨rfl, rfl⟩
          rw [pe_plain s hs h1' h2']
          exact ⟨ret_pair (ExpPlain.core_bad (by rw [hlen]; exact Or.inr hb)), rfl⟩
        · exact gram_plain s w hs (by omega) h1' h2'
  · refine (gram_empty s w (by omega)).mono ?_
    rintro e w' ⟨rfl, rfl⟩
    rw [pe_empty s hs]
    exact ⟨rfl, rfl⟩

set_option maxHeartbeats 400000 in
theorem bytes_ok (s : ByteArray) (hmx : s.size ≤ 1048576) (w : World) :
    Calls Try.prog 8 #[.string s] w fun e w' => e = .returned (.bool true) ∧ w' = w := by
  have hmx' : ((s.size : Nat) : Int) ≤ 1048576 := by omega
  have hmx2 : ¬ (1048576 : Int) < ((s.size : Nat) : Int) := by omega
  go_enter Try.func8, Try.ntmps8
  go_wp2
  go_ret
  exact ⟨rfl, rfl⟩

set_option maxHeartbeats 400000 in
theorem bytes_bad (s : ByteArray) (hmx : 1048576 < s.size) (w : World) :
    Calls Try.prog 8 #[.string s] w fun e w' => e = .returned (.bool false) ∧ w' = w := by
  have hmx' : (1048576 : Int) < ((s.size : Nat) : Int) := by omega
  go_enter Try.func8, Try.ntmps8
  go_wp2
  go_ret
  exact ⟨rfl, rfl⟩

end Go.Proofs.Qxb6602801a
