import Derived.Test.Qxb6602801aRows
import Derived.Test.Qxb6602801aExpPlain
import Derived.WalkKit
import Derived.WalkSpells
import Derived.WalkLawsBesides
import Derived.Outline
namespace Go.Proofs.Qxb6602801a
open Go.RowKit

theorem grown_trans {A B C : World} (h1 : Grown A B) (h2 : Grown B C) : Grown A C :=
  ⟨World.keptBut_trans h1.1 h2.1, fun a => (h2.2.1 a).trans (h1.2.1 a), Nat.le_trans h1.2.2 h2.2.2⟩

theorem grown_iter {W w' : World} (h : Grown W w') (s : ByteArray) (p : Nat) : Grown W (w'.iter s p) := by
  refine ⟨World.keptBut_trans h.1 (World.keptBut_alloc _ _ _), fun a => ?_, Nat.le_trans h.2.2 (by show w'.heap.size ≤ (w'.heap.push _).size; simp)⟩
  refine Eq.trans ?_ (h.2.1 a)
  by_cases hb : a.block = w'.heap.size
  · have e1 : (w'.iter s p).heap[a.block]? = some (.stringIter s p) := by rw [hb]; exact World.iter_heap w' s p
    have e2 : w'.heap[a.block]? = none := by rw [hb]; simp
    simp [World.frozen?, e1, e2]
  · exact World.frozen?_alloc_old _ _ _ hb

/-- The world behind parseExponent: as it was, or one string iterator more. -/
def Ends (w w' : World) : Prop := w' = w ∨ ∃ t p, w' = w.iter t p
theorem Ends.grown {w w' : World} (h : Ends w w') : Grown w w' := by
  rcases h with rfl | ⟨t, p, rfl⟩
  · exact Grown.refl _
  · exact grown_iter (Grown.refl _) t p
theorem Ends.below {w w' : World} (h : Ends w w') (B : Nat) (hB : B ≤ w.heap.size) : Below B w w' := by
  rcases h with rfl | ⟨t, p, rfl⟩
  · exact Below.refl _ _
  · exact (Below.refl _ _).alloc hB _

set_option maxHeartbeats 400000 in
theorem parse_empty (w : World) :
    Calls Try.prog 14 #[.string ⟨#[]⟩] w fun e w' => e = .returned (.tuple #[.int .i64 0, .bool false]) ∧ w' = w := by
  go_enter Try.func14, Try.ntmps14
  go_wp2
  go_ret2
  exact ⟨rfl, rfl⟩

theorem drop_cons (t : ByteArray) (pos : Nat) (h : pos < t.size) : t.data.toList.drop pos = t[pos] :: t.data.toList.drop (pos + 1) := by
  rw [List.drop_eq_getElem_cons (by simpa using h)]; rfl
theorem decode_nondig (t : ByteArray) (pos : Nat) (h : pos < t.size) (hd : ExpPlain.isDig t[pos] = false) :
    ((Utf8.decode t pos).1 : Int) < 48 ∨ 57 < ((Utf8.decode t pos).1 : Int) := by
  by_cases ha : t[pos].toNat < 128
  · rw [decode_ascii t pos h ha]
    simp [ExpPlain.isDig] at hd
    show (t[pos].toNat : Int) < 48 ∨ 57 < (t[pos].toNat : Int)
    omega
  · have := (decode_high t pos h (by omega)).1
    omega
theorem ret_pair {p : Int × Bool} {a : Int} {b : Bool} (h : p = (a, b)) :
    Ending.returned (.tuple #[.int .i64 a, .bool b]) = .returned (.tuple #[.int .i64 p.1, .bool p.2]) := by rw [h]
theorem tp_le4 (n : Nat) (h : n ≤ 4) : ExpPlain.tp n ≤ 10000 := by
  match n, h with
  | 0, _ => decide
  | 1, _ => decide
  | 2, _ => decide
  | 3, _ => decide
  | 4, _ => decide
theorem len_toList (t : ByteArray) : t.data.toList.length = t.size := by rw [Array.length_toList]; rfl
theorem isEmpty_of (s : ByteArray) (h : 0 < s.size) : s.toList.isEmpty = false := by
  rw [ByteArray.toList_eq]
  have := len_toList s
  cases hl : s.data.toList with
  | nil => rw [hl] at this; simp at this; omega
  | cons c cs => rfl
set_option maxHeartbeats 1000000 in
theorem parse_plain (t : ByteArray) (w : World) (hs : 0 < t.size) (h1 : ((t[0].toNat : Int) == 43) = false) (h2 : ((t[0].toNat : Int) == 45) = false) (h4 : t.size ≤ 4) :
    Calls Try.prog 14 #[.string t] w fun e w' => e = .returned (.tuple #[.int .i64 (ExpPlain.core false t.data.toList).1, .bool (ExpPlain.core false t.data.toList).2]) ∧ Ends w w' := by
  have hne := isEmpty_of t hs
  have h4' : (t.size : Int) ≤ 4 := by omega
  go_enter Try.func14, Try.ntmps14
  go_wp2
  go_loopw [5] (fun e w' => ∃ (pos : Nat) (acc : Int), w' = w.iter t pos ∧ pos ≤ t.size ∧ e = .int .i64 acc ∧ 0 ≤ acc ∧ acc < ExpPlain.tp pos ∧ ExpPlain.dv (t.data.toList.drop pos) acc = ExpPlain.dv t.data.toList 0) (fun _ w' => t.size - w'.iterPos w.heap.size)
  case atStart => exact ⟨0, 0, rfl, Nat.zero_le _, rfl, by omega, by decide, rfl⟩
  case round =>
    obtain ⟨pos, acc, rfl, hle, rfl, ha0, ha1, hdv⟩ := hrel
    have HD : Hid (ExpPlain.dv (t.data.toList.drop pos) acc = ExpPlain.dv t.data.toList 0) := hdv
    clear hdv
    by_cases hp : pos < t.size
    · have htp := ExpPlain.tp_le pos (by omega)
      by_cases hd : ExpPlain.isDig t[pos] = true
      · have hb : 48 ≤ t[pos].toNat ∧ t[pos].toNat ≤ 57 := by simpa [ExpPlain.isDig] using hd
        have hb1 : (48 : Int) ≤ (t[pos].toNat : Int) := by omega
        have hb2 : (t[pos].toNat : Int) ≤ 57 := by omega
        have HS : Hid (ExpPlain.dv (t.data.toList.drop (pos + 1)) (acc * 10 + ((t[pos].toNat : Int) - 48)) = ExpPlain.dv t.data.toList 0) := by
          have := HD.out
          rw [drop_cons t pos hp, ExpPlain.dv_cons hd] at this
          exact this
        have hnx := fun ty => run_next_ascii (P := Try.prog) w t pos ty hp (by omega)
        clear HD hd
        have hts := ExpPlain.tp_succ pos
        have hts2 : acc * 10 + ((t[pos].toNat : Int) - 48) < ExpPlain.tp (pos + 1) := by omega
        clear hts
        go_wp2
        go_roundw
        case rel => exact ⟨pos + 1, acc * 10 + ((t[pos].toNat : Int) - 48), rfl, by omega, by go_num, by omega, hts2, HS.out⟩
        case measure => simp; omega
      · have hd' : ExpPlain.isDig t[pos] = false := by simpa using hd
        have HS : Hid (ExpPlain.core false t.data.toList = (0, false)) := by
          have := HD.out
          rw [drop_cons t pos hp, ExpPlain.dv_none hd'] at this
          exact ExpPlain.core_of (by rw [len_toList]; omega) (by rw [len_toList]; omega) this.symm
        have hr := decode_nondig t pos hp hd'
        have hnx := fun ty => run_next_any (P := Try.prog) w t pos ty hp
        clear HD hd hd'
        generalize (Utf8.decode t pos).1 = r at *
        generalize (Utf8.decode t pos).2 = q at *
        rcases hr with hr | hr
        · go_wp2
          go_ret2
          exact ⟨ret_pair HS.out, Or.inr ⟨_, _, rfl⟩⟩
        · have hr2 : ¬ (r : Int) < 48 := by omega
          have hr3 : (57 : Int) < (r : Int) := by omega
          go_wp2
          go_ret2
          exact ⟨ret_pair HS.out, Or.inr ⟨_, _, rfl⟩⟩
    · have hnx := fun ty => run_next_end (P := Try.prog) w t pos ty hp
      have HS : Hid (ExpPlain.core false t.data.toList = (acc, true)) := by
        have := HD.out
        rw [List.drop_of_length_le (by simp; omega)] at this
        exact ExpPlain.core_of (by rw [len_toList]; omega) (by rw [len_toList]; omega) this.symm
      have hpe : pos ≤ 4 := by omega
      have hacc : acc < 10000 := by
        have h5 : ExpPlain.tp pos ≤ 10000 := tp_le4 pos hpe
        omega
      clear HD
      go_wp2
      go_ret2
      exact ⟨ret_pair HS.out, Or.inr ⟨_, _, rfl⟩⟩


set_option maxHeartbeats 1000000 in
theorem parse_plus (s t : ByteArray) (w : World) (hs : 0 < s.size) (h1 : ((s[0].toNat : Int) == 43) = true) (ht : s.extract 1 s.size = t) (ht0 : 0 < t.size) (hts : t.size = s.size - 1) (h4 : t.size ≤ 4) :
    Calls Try.prog 14 #[.string s] w fun e w' => e = .returned (.tuple #[.int .i64 (ExpPlain.core false t.data.toList).1, .bool (ExpPlain.core false t.data.toList).2]) ∧ Ends w w' := by
  have hne := isEmpty_of s hs
  have hnt := isEmpty_of t ht0
  have hnt2 : t.toList ≠ [] := by intro h; rw [h] at hnt; exact absurd hnt (by decide)
  have h4' : (t.size : Int) ≤ 4 := by omega
  have h2 : ((s[0].toNat : Int) == 45) = false := by rw [beq_iff_eq] at h1; rw [h1]; decide
  have h5 : ((s.size - 1 : Nat) : Int) ≤ 4 := by omega
  have h5' : ¬ (4 : Int) < ((s.size - 1 : Nat) : Int) := by omega
  go_enter Try.func14, Try.ntmps14
  go_wp2
  go_loopw [5] (fun e w' => ∃ (pos : Nat) (acc : Int), w' = w.iter t pos ∧ pos ≤ t.size ∧ e = .int .i64 acc ∧ 0 ≤ acc ∧ acc < ExpPlain.tp pos ∧ ExpPlain.dv (t.data.toList.drop pos) acc = ExpPlain.dv t.data.toList 0) (fun _ w' => t.size - w'.iterPos w.heap.size)
  case atStart => exact ⟨0, 0, rfl, Nat.zero_le _, rfl, by omega, by decide, rfl⟩
  case round =>
    obtain ⟨pos, acc, rfl, hle, rfl, ha0, ha1, hdv⟩ := hrel
    have HD : Hid (ExpPlain.dv (t.data.toList.drop pos) acc = ExpPlain.dv t.data.toList 0) := hdv
    clear hdv
    by_cases hp : pos < t.size
    · have htp := ExpPlain.tp_le pos (by omega)
      by_cases hd : ExpPlain.isDig t[pos] = true
      · have hb : 48 ≤ t[pos].toNat ∧ t[pos].toNat ≤ 57 := by simpa [ExpPlain.isDig] using hd
        have hb1 : (48 : Int) ≤ (t[pos].toNat : Int) := by omega
        have hb2 : (t[pos].toNat : Int) ≤ 57 := by omega
        have HS : Hid (ExpPlain.dv (t.data.toList.drop (pos + 1)) (acc * 10 + ((t[pos].toNat : Int) - 48)) = ExpPlain.dv t.data.toList 0) := by
          have := HD.out
          rw [drop_cons t pos hp, ExpPlain.dv_cons hd] at this
          exact this
        have hnx := fun ty => run_next_ascii (P := Try.prog) w t pos ty hp (by omega)
        clear HD hd
        have hts := ExpPlain.tp_succ pos
        have hts2 : acc * 10 + ((t[pos].toNat : Int) - 48) < ExpPlain.tp (pos + 1) := by omega
        clear hts
        go_wp2
        go_roundw
        case rel => exact ⟨pos + 1, acc * 10 + ((t[pos].toNat : Int) - 48), rfl, by omega, by go_num, by omega, hts2, HS.out⟩
        case measure => simp; omega
      · have hd' : ExpPlain.isDig t[pos] = false := by simpa using hd
        have HS : Hid (ExpPlain.core false t.data.toList = (0, false)) := by
          have := HD.out
          rw [drop_cons t pos hp, ExpPlain.dv_none hd'] at this
          exact ExpPlain.core_of (by rw [len_toList]; omega) (by rw [len_toList]; omega) this.symm
        have hr := decode_nondig t pos hp hd'
        have hnx := fun ty => run_next_any (P := Try.prog) w t pos ty hp
        clear HD hd hd'
        generalize (Utf8.decode t pos).1 = r at *
        generalize (Utf8.decode t pos).2 = q at *
        rcases hr with hr | hr
        · go_wp2
          go_ret2
          exact ⟨ret_pair HS.out, Or.inr ⟨_, _, rfl⟩⟩
        · have hr2 : ¬ (r : Int) < 48 := by omega
          have hr3 : (57 : Int) < (r : Int) := by omega
          go_wp2
          go_ret2
          exact ⟨ret_pair HS.out, Or.inr ⟨_, _, rfl⟩⟩
    · have hnx := fun ty => run_next_end (P := Try.prog) w t pos ty hp
      have HS : Hid (ExpPlain.core false t.data.toList = (acc, true)) := by
        have := HD.out
        rw [List.drop_of_length_le (by simp; omega)] at this
        exact ExpPlain.core_of (by rw [len_toList]; omega) (by rw [len_toList]; omega) this.symm
      have hpe : pos ≤ 4 := by omega
      have hacc : acc < 10000 := by
        have h5 : ExpPlain.tp pos ≤ 10000 := tp_le4 pos hpe
        omega
      clear HD
      go_wp2
      go_ret2
      exact ⟨ret_pair HS.out, Or.inr ⟨_, _, rfl⟩⟩

set_option maxHeartbeats 1000000 in
theorem parse_minus (s t : ByteArray) (w : World) (hs : 0 < s.size) (h1 : ((s[0].toNat : Int) == 45) = true) (ht : s.extract 1 s.size = t) (ht0 : 0 < t.size) (hts : t.size = s.size - 1) (h4 : t.size ≤ 4) :
    Calls Try.prog 14 #[.string s] w fun e w' => e = .returned (.tuple #[.int .i64 (ExpPlain.core true t.data.toList).1, .bool (ExpPlain.core true t.data.toList).2]) ∧ Ends w w' := by
  have hne := isEmpty_of s hs
  have hnt := isEmpty_of t ht0
  have hnt2 : t.toList ≠ [] := by intro h; rw [h] at hnt; exact absurd hnt (by decide)
  have h4' : (t.size : Int) ≤ 4 := by omega
  have h2 : ((s[0].toNat : Int) == 43) = false := by rw [beq_iff_eq] at h1; rw [h1]; decide
  have h5 : ((s.size - 1 : Nat) : Int) ≤ 4 := by omega
  have h5' : ¬ (4 : Int) < ((s.size - 1 : Nat) : Int) := by omega
  go_enter Try.func14, Try.ntmps14
  go_wp2
  go_loopw [5] (fun e w' => ∃ (pos : Nat) (acc : Int), w' = w.iter t pos ∧ pos ≤ t.size ∧ e = .int .i64 acc ∧ 0 ≤ acc ∧ acc < ExpPlain.tp pos ∧ ExpPlain.dv (t.data.toList.drop pos) acc = ExpPlain.dv t.data.toList 0) (fun _ w' => t.size - w'.iterPos w.heap.size)
  case atStart => exact ⟨0, 0, rfl, Nat.zero_le _, rfl, by omega, by decide, rfl⟩
  case round =>
    obtain ⟨pos, acc, rfl, hle, rfl, ha0, ha1, hdv⟩ := hrel
    have HD : Hid (ExpPlain.dv (t.data.toList.drop pos) acc = ExpPlain.dv t.data.toList 0) := hdv
    clear hdv
    by_cases hp : pos < t.size
    · have htp := ExpPlain.tp_le pos (by omega)
      by_cases hd : ExpPlain.isDig t[pos] = true
      · have hb : 48 ≤ t[pos].toNat ∧ t[pos].toNat ≤ 57 := by simpa [ExpPlain.isDig] using hd
        have hb1 : (48 : Int) ≤ (t[pos].toNat : Int) := by omega
        have hb2 : (t[pos].toNat : Int) ≤ 57 := by omega
        have HS : Hid (ExpPlain.dv (t.data.toList.drop (pos + 1)) (acc * 10 + ((t[pos].toNat : Int) - 48)) = ExpPlain.dv t.data.toList 0) := by
          have := HD.out
          rw [drop_cons t pos hp, ExpPlain.dv_cons hd] at this
          exact this
        have hnx := fun ty => run_next_ascii (P := Try.prog) w t pos ty hp (by omega)
        clear HD hd
        have hts := ExpPlain.tp_succ pos
        have hts2 : acc * 10 + ((t[pos].toNat : Int) - 48) < ExpPlain.tp (pos + 1) := by omega
        clear hts
        go_wp2
        go_roundw
        case rel => exact ⟨pos + 1, acc * 10 + ((t[pos].toNat : Int) - 48), rfl, by omega, by go_num, by omega, hts2, HS.out⟩
        case measure => simp; omega
      · have hd' : ExpPlain.isDig t[pos] = false := by simpa using hd
        have HS : Hid (ExpPlain.core true t.data.toList = (0, false)) := by
          have := HD.out
          rw [drop_cons t pos hp, ExpPlain.dv_none hd'] at this
          exact ExpPlain.core_of (by rw [len_toList]; omega) (by rw [len_toList]; omega) this.symm
        have hr := decode_nondig t pos hp hd'
        have hnx := fun ty => run_next_any (P := Try.prog) w t pos ty hp
        clear HD hd hd'
        generalize (Utf8.decode t pos).1 = r at *
        generalize (Utf8.decode t pos).2 = q at *
        rcases hr with hr | hr
        · go_wp2
          go_ret2
          exact ⟨ret_pair HS.out, Or.inr ⟨_, _, rfl⟩⟩
        · have hr2 : ¬ (r : Int) < 48 := by omega
          have hr3 : (57 : Int) < (r : Int) := by omega
          go_wp2
          go_ret2
          exact ⟨ret_pair HS.out, Or.inr ⟨_, _, rfl⟩⟩
    · have hnx := fun ty => run_next_end (P := Try.prog) w t pos ty hp
      have HS : Hid (ExpPlain.core true t.data.toList = (-acc, true)) := by
        have := HD.out
        rw [List.drop_of_length_le (by simp; omega)] at this
        exact ExpPlain.core_of (by rw [len_toList]; omega) (by rw [len_toList]; omega) this.symm
      have hpe : pos ≤ 4 := by omega
      have hacc : acc < 10000 := by
        have h5 : ExpPlain.tp pos ≤ 10000 := tp_le4 pos hpe
        omega
      clear HD
      go_wp2
      go_ret2
      exact ⟨ret_pair HS.out, Or.inr ⟨_, _, rfl⟩⟩

set_option maxHeartbeats 400000 in
theorem parse_plain_long (t : ByteArray) (w : World) (hs : 4 < t.size) (h1 : ((t[0].toNat : Int) == 43) = false) (h2 : ((t[0].toNat : Int) == 45) = false) :
    Calls Try.prog 14 #[.string t] w fun e w' => e = .returned (.tuple #[.int .i64 0, .bool false]) ∧ w' = w := by
  have hne := isEmpty_of t (by omega)
  have hs' : (4 : Int) < (t.size : Int) := by omega
  go_enter Try.func14, Try.ntmps14
  go_wp2
  go_ret2
  exact ⟨rfl, rfl⟩

set_option maxHeartbeats 400000 in
theorem parse_plus_bad (s t : ByteArray) (w : World) (hs : 0 < s.size) (h1 : ((s[0].toNat : Int) == 43) = true) (ht : s.extract 1 s.size = t) (hts : t.size = s.size - 1) (h4 : t.size = 0 ∨ 4 < t.size) :
    Calls Try.prog 14 #[.string s] w fun e w' => e = .returned (.tuple #[.int .i64 0, .bool false]) ∧ w' = w := by
  have hne := isEmpty_of s hs
  rcases h4 with h4 | h4
  · have ht0 : t.toList = [] := by rw [ByteArray.toList_eq]; exact List.eq_nil_of_length_eq_zero (by rw [len_toList]; exact h4)
    clear h4
    go_enter Try.func14, Try.ntmps14
    go_wp2
    go_ret2
    exact ⟨rfl, rfl⟩
  · have hnt := isEmpty_of t (by omega)
    have hnt2 : t.toList ≠ [] := by intro h; rw [h] at hnt; exact absurd hnt (by decide)
    have h5 : (4 : Int) < ((s.size - 1 : Nat) : Int) := by omega
    go_enter Try.func14, Try.ntmps14
    go_wp2
    go_ret2
    exact ⟨rfl, rfl⟩

set_option maxHeartbeats 400000 in
theorem parse_minus_bad (s t : ByteArray) (w : World) (hs : 0 < s.size) (h1 : ((s[0].toNat : Int) == 45) = true) (ht : s.extract 1 s.size = t) (hts : t.size = s.size - 1) (h4 : t.size = 0 ∨ 4 < t.size) :
    Calls Try.prog 14 #[.string s] w fun e w' => e = .returned (.tuple #[.int .i64 0, .bool false]) ∧ w' = w := by
  have hne := isEmpty_of s hs
  have h2 : ((s[0].toNat : Int) == 43) = false := by rw [beq_iff_eq] at h1; rw [h1]; decide
  rcases h4 with h4 | h4
  · have ht0 : t.toList = [] := by rw [ByteArray.toList_eq]; exact List.eq_nil_of_length_eq_zero (by rw [len_toList]; exact h4)
    clear h4
    go_enter Try.func14, Try.ntmps14
    go_wp2
    go_ret2
    exact ⟨rfl, rfl⟩
  · have hnt := isEmpty_of t (by omega)
    have hnt2 : t.toList ≠ [] := by intro h; rw [h] at hnt; exact absurd hnt (by decide)
    have h5 : (4 : Int) < ((s.size - 1 : Nat) : Int) := by omega
    go_enter Try.func14, Try.ntmps14
    go_wp2
    go_ret2
    exact ⟨rfl, rfl⟩

end Go.Proofs.Qxb6602801a
