import Derived.Test.Qxb6602801aExpWalk
import Derived.Lib.Strings
namespace Go.Proofs.Qxb6602801a
open Go.RowKit

theorem list_cons (s : ByteArray) (hs : 0 < s.size) : s.data.toList = s[0] :: s.data.toList.drop 1 := by
  have := drop_cons s 0 hs
  simpa using this
theorem pe_plain (s : ByteArray) (hs : 0 < s.size) (h1 : ((s[0].toNat : Int) == 43) = false) (h2 : ((s[0].toNat : Int) == 45) = false) :
    ExpPlain.pe s.data.toList = ExpPlain.core false s.data.toList := by
  rw [beq_eq_false_iff_ne] at h1 h2
  rw [list_cons s hs, ExpPlain.pe, if_neg (by omega), if_neg (by omega)]
theorem pe_plus (s : ByteArray) (hs : 0 < s.size) (h1 : ((s[0].toNat : Int) == 43) = true) :
    ExpPlain.pe s.data.toList = ExpPlain.core false (s.data.toList.drop 1) := by
  rw [beq_iff_eq] at h1
  rw [list_cons s hs, ExpPlain.pe, if_pos (by omega)]
  rfl
theorem pe_minus (s : ByteArray) (hs : 0 < s.size) (h1 : ((s[0].toNat : Int) == 45) = true) :
    ExpPlain.pe s.data.toList = ExpPlain.core true (s.data.toList.drop 1) := by
  rw [beq_iff_eq] at h1
  rw [list_cons s hs, ExpPlain.pe, if_neg (by omega), if_pos (by omega)]
  rfl
theorem pe_empty (s : ByteArray) (hs : ¬ 0 < s.size) : ExpPlain.pe s.data.toList = (0, false) := by
  have : s.data.toList = [] := List.eq_nil_of_length_eq_zero (by rw [len_toList]; omega)
  rw [this]; rfl
theorem extract_one (s : ByteArray) : (s.extract 1 s.size).data.toList = s.data.toList.drop 1 := by
  rw [Lib.extract_data, List.take_of_length_le]
  rw [List.length_drop, len_toList]; exact Nat.le_refl _
theorem extract_one_size (s : ByteArray) : (s.extract 1 s.size).size = s.size - 1 := by
  rw [← len_toList, extract_one, List.length_drop, len_toList]

/-- parseExponent at every string. -/
theorem parse_any (s : ByteArray) (w : World) :
    Calls Try.prog 14 #[.string s] w fun e w' => e = .returned (.tuple #[.int .i64 (ExpPlain.pe s.data.toList).1, .bool (ExpPlain.pe s.data.toList).2]) ∧ Ends w w' := by
  by_cases hs : 0 < s.size
  · have hlen := len_toList s
    by_cases h1 : ((s[0].toNat : Int) == 43) = true
    · rw [pe_plus s hs h1]
      by_cases hb : (s.extract 1 s.size).size = 0 ∨ 4 < (s.extract 1 s.size).size
      · refine (parse_plus_bad s _ w hs h1 rfl (extract_one_size s) hb).mono ?_
        rintro e w' ⟨rfl, rfl⟩
        rw [extract_one_size] at hb
        exact ⟨ret_pair (ExpPlain.core_bad (by rw [List.length_drop, hlen]; exact hb)), Or.inl rfl⟩
      · have := parse_plus s _ w hs h1 rfl (by omega) (extract_one_size s) (by omega)
        rw [extract_one] at this
        exact this
    · have h1' : ((s[0].toNat : Int) == 43) = false := by simpa using h1
      by_cases h2 : ((s[0].toNat : Int) == 45) = true
      · rw [pe_minus s hs h2]
        by_cases hb : (s.extract 1 s.size).size = 0 ∨ 4 < (s.extract 1 s.size).size
        · refine (parse_minus_bad s _ w hs h2 rfl (extract_one_size s) hb).mono ?_
          rintro e w' ⟨rfl, rfl⟩
          rw [extract_one_size] at hb
          exact ⟨ret_pair (ExpPlain.core_bad (by rw [List.length_drop, hlen]; exact hb)), Or.inl rfl⟩
        · have := parse_minus s _ w hs h2 rfl (by omega) (extract_one_size s) (by omega)
          rw [extract_one] at this
          exact this
      · have h2' : ((s[0].toNat : Int) == 45) = false := by simpa using h2
        rw [pe_plain s hs h1' h2']
        by_cases hb : 4 < s.size
        · refine (parse_plain_long s w hb h1' h2').mono ?_
          rintro e w' ⟨rfl, rfl⟩
          exact ⟨ret_pair (ExpPlain.core_bad (by rw [hlen]; exact Or.inr hb)), Or.inl rfl⟩
        · exact parse_plain s w hs h1' h2' (by omega)
  · rw [pe_empty s hs]
    have e : s = ⟨#[]⟩ := by
      have h0 : s.data.size = 0 := by show s.size = 0; omega
      cases s with
      | mk d => have hd : d = #[] := Array.eq_empty_of_size_eq_zero h0; rw [hd]
    rw [e]
    refine (parse_empty w).mono ?_
    rintro e w' ⟨rfl, rfl⟩
    exact ⟨rfl, Or.inl rfl⟩

set_option maxHeartbeats 400000 in
theorem zzParse_any (s : ByteArray) (w : World) :
    Calls Try.prog 9 #[.string s] w fun e w' => e = .returned (.tuple #[.int .i64 (ExpPlain.pe s.data.toList).1, .bool (ExpPlain.pe s.data.toList).2]) ∧ Ends w w' := by
  go_enter Try.func9, Try.ntmps9
  go_wp2_with fail
  refine (parse_any _ _).mono ?_
  rintro e w' ⟨rfl, hg⟩
  go_wp2
  go_ret2
  exact ⟨rfl, hg⟩

end Go.Proofs.Qxb6602801a
