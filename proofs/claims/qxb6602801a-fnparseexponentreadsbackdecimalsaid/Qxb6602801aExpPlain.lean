namespace ExpPlain

/-- A byte of '0' .. '9', as a number. -/
def dig (c : UInt8) : Int := (c.toNat : Int) - 48
def isDig (c : UInt8) : Bool := 48 ≤ c.toNat && c.toNat ≤ 57
/-- The digits read from the left onto e. -/
def dv : List UInt8 → Int → Option Int
  | [], e => some e
  | c :: cs, e => if isDig c then dv cs (e * 10 + dig c) else none
/-- The digits' weight from the right. -/
def val : List UInt8 → Int
  | [] => 0
  | c :: cs => dig c * 10 ^ cs.length + val cs
def fin (neg : Bool) : Option Int → Int × Bool
  | none => (0, false)
  | some e => (if neg then -e else e, true)
def core (neg : Bool) (l : List UInt8) : Int × Bool := if l.length = 0 ∨ 4 < l.length then (0, false) else fin neg (dv l 0)
def pe : List UInt8 → Int × Bool
  | [] => (0, false)
  | c :: cs => if c.toNat = 43 then core false cs else if c.toNat = 45 then core true cs else core false (c :: cs)

theorem dv_all (l : List UInt8) : ∀ e, dv l e = if l.all isDig then some (e * 10 ^ l.length + val l) else none := by
  induction l with
  | nil => intro e; simp [dv, val]
  | cons c cs ih =>
    intro e
    by_cases h : isDig c = true
    · simp only [dv, h, if_true, ih, List.all_cons, Bool.true_and, val, List.length_cons]
      split
      · congr 1
        rw [Int.pow_succ, Int.add_mul]
        rw [Int.mul_assoc e 10, Int.mul_comm 10]
        omega
      · rfl
    · have h' : isDig c = false := by simpa using h
      simp [dv, h']

theorem dig_bd (c : UInt8) (h : isDig c = true) : 0 ≤ dig c ∧ dig c ≤ 9 := by
  simp [isDig] at h; unfold dig; omega

theorem pow_pos (n : Nat) : (1 : Int) ≤ 10 ^ n := by
  induction n with
  | zero => simp
  | succ n ih => rw [Int.pow_succ]; omega

theorem val_bd (l : List UInt8) (h : l.all isDig = true) : 0 ≤ val l ∧ val l < 10 ^ l.length := by
  induction l with
  | nil => simp [val]
  | cons c cs ih =>
    simp only [List.all_cons, Bool.and_eq_true] at h
    obtain ⟨a, b⟩ := ih h.2
    obtain ⟨d1, d2⟩ := dig_bd c h.1
    have hp := pow_pos cs.length
    simp only [val, List.length_cons, Int.pow_succ]
    have m1 : 0 ≤ dig c * 10 ^ cs.length := Int.mul_nonneg d1 (by omega)
    have m2 : dig c * 10 ^ cs.length ≤ 9 * 10 ^ cs.length := Int.mul_le_mul_of_nonneg_right d2 (by omega)
    omega

def tp (n : Nat) : Int := 10 ^ n
theorem tp_zero : tp 0 = 1 := rfl
theorem tp_succ (n : Nat) : tp (n + 1) = 10 * tp n := by unfold tp; rw [Int.pow_succ]; omega
theorem tp_le (n : Nat) (h : n ≤ 3) : 1 ≤ tp n ∧ tp n ≤ 1000 := by
  match n, h with
  | 0, _ => decide
  | 1, _ => decide
  | 2, _ => decide
  | 3, _ => decide

theorem core_of {neg : Bool} {l : List UInt8} {o : Option Int} (h1 : l.length ≠ 0) (h4 : l.length ≤ 4) (h : dv l 0 = o) : core neg l = fin neg o := by
  unfold core; rw [if_neg (by omega), h]
theorem core_bad {neg : Bool} {l : List UInt8} (h : l.length = 0 ∨ 4 < l.length) : core neg l = (0, false) := by
  unfold core; rw [if_pos h]
theorem dv_cons {c : UInt8} {cs : List UInt8} {e : Int} (h : isDig c = true) : dv (c :: cs) e = dv cs (e * 10 + ((c.toNat : Int) - 48)) := by
  simp [dv, h, dig]
theorem dv_none {c : UInt8} {cs : List UInt8} {e : Int} (h : isDig c = false) : dv (c :: cs) e = none := by
  simp [dv, h]

theorem core_val {neg : Bool} {l : List UInt8} (h1 : l.length ≠ 0) (h4 : l.length ≤ 4) (ha : l.all isDig = true) : core neg l = (if neg then -val l else val l, true) := by
  rw [core_of h1 h4 (dv_all l 0), ha]
  simp [fin]
theorem core_nondig {neg : Bool} {l : List UInt8} {c : UInt8} (hc : c ∈ l) (hd : isDig c = false) : core neg l = (0, false) := by
  by_cases hb : l.length = 0 ∨ 4 < l.length
  · exact core_bad hb
  · have ha : l.all isDig = false := by
      rw [List.all_eq_false]
      exact ⟨c, hc, by simp [hd]⟩
    rw [core_of (by omega) (by omega) (dv_all l 0), ha]
    rfl

/-! ### The decimal text of a number -/
/-- The digit of M at the place i, as a byte. -/
def db (M i : Nat) : UInt8 := UInt8.ofNat (48 + M / 10 ^ i % 10)
/-- The last d digits of M, from the left. -/
def rd (M : Nat) : Nat → List UInt8
  | 0 => []
  | d + 1 => db M d :: rd M d

theorem db_toNat (M i : Nat) : (db M i).toNat = 48 + M / 10 ^ i % 10 := by
  unfold db
  have : M / 10 ^ i % 10 < 10 := Nat.mod_lt _ (by decide)
  rw [UInt8.toNat_ofNat']
  omega
theorem db_isDig (M i : Nat) : isDig (db M i) = true := by
  have : M / 10 ^ i % 10 < 10 := Nat.mod_lt _ (by decide)
  simp [isDig, db_toNat]; omega
theorem rd_length (M d : Nat) : (rd M d).length = d := by
  induction d with
  | zero => rfl
  | succ d ih => simp [rd, ih]
theorem rd_all (M d : Nat) : (rd M d).all isDig = true := by
  induction d with
  | zero => rfl
  | succ d ih => simp only [rd, List.all_cons, db_isDig, ih, Bool.and_self]
theorem rd_val (M d : Nat) : val (rd M d) = ((M % 10 ^ d : Nat) : Int) := by
  induction d with
  | zero => simp [rd, val, Nat.mod_one]
  | succ d ih =>
    simp only [rd, val, ih, rd_length, dig, db_toNat]
    rw [Nat.mod_pow_succ]
    have e : ((48 + M / 10 ^ d % 10 : Nat) : Int) - 48 = ((M / 10 ^ d % 10 : Nat) : Int) := by omega
    rw [e, Int.natCast_add, Int.natCast_mul, Int.natCast_pow]
    rw [Int.mul_comm]
    show _ = _
    rw [Int.add_comm]
    rfl
theorem rd_pad (M n d : Nat) (hM : M < 10 ^ n) (hd : n ≤ d) : rd M d = List.replicate (d - n) 48 ++ rd M n := by
  induction d with
  | zero =>
    have : n = 0 := by omega
    subst this; rfl
  | succ d ih =>
    by_cases h : n = d + 1
    · subst h; simp
    · have hn : n ≤ d := by omega
      rw [rd, ih hn]
      have e : d + 1 - n = (d - n) + 1 := by omega
      rw [e, List.replicate_succ, List.cons_append]
      have hz : M / 10 ^ d = 0 := Nat.div_eq_of_lt (Nat.lt_of_lt_of_le hM (Nat.pow_le_pow_right (by decide) hn))
      have : db M d = 48 := by unfold db; rw [hz]; rfl
      rw [this]
/-- What parseExponent's plain function says of the text. -/
theorem pe_text (M d : Nat) (sg : List UInt8) (hd : 1 ≤ d) (hM : M < 10 ^ d) (hs : sg = [] ∨ sg = [43] ∨ sg = [45]) :
    pe (sg ++ rd M d) = if d ≤ 4 then ((if sg = [45] then -(M : Int) else (M : Int)), true) else (0, false) := by
  have hv : val (rd M d) = (M : Int) := by rw [rd_val, Nat.mod_eq_of_lt hM]
  have hl := rd_length M d
  have hc : ∀ neg, core neg (rd M d) = if d ≤ 4 then ((if neg then -(M : Int) else (M : Int)), true) else (0, false) := by
    intro neg
    by_cases h4 : d ≤ 4
    · rw [if_pos h4, core_val (by omega) (by omega) (rd_all M d), hv]
    · rw [if_neg h4, core_bad (by omega)]
  rcases hs with rfl | rfl | rfl
  · obtain ⟨d', rfl⟩ : ∃ d', d = d' + 1 := ⟨d - 1, by omega⟩
    have hb := db_toNat M d'
    have hlt : M / 10 ^ d' % 10 < 10 := Nat.mod_lt _ (by decide)
    have e : pe ([] ++ rd M (d' + 1)) = core false (rd M (d' + 1)) := by
      simp only [List.nil_append, rd, pe]
      rw [if_neg (by omega), if_neg (by omega)]
    rw [e, hc]
    simp
  · have e : pe ([43] ++ rd M d) = core false (rd M d) := by
      simp only [List.cons_append, List.nil_append, pe]
      rw [if_pos (by decide)]
    rw [e, hc]
    simp
  · have e : pe ([45] ++ rd M d) = core true (rd M d) := by
      simp only [List.cons_append, List.nil_append, pe]
      rw [if_neg (by decide), if_pos (by decide)]
    rw [e, hc]
    simp

end ExpPlain
