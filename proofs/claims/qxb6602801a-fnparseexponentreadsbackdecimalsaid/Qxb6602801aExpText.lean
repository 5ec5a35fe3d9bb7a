import Derived.Test.Qxb6602801aExpAny
import Derived.OwnWalk
import Derived.Deep.Cut
import Derived.Laws.IdiomStrings
namespace Go.Proofs.Qxb6602801a
open Go.RowKit

/-- The bytes of a list, as cells. -/
def bv (l : List UInt8) : List Value := l.map fun b => Value.int .u8 (b.toNat : Int)
theorem bv_append (a b : List UInt8) : bv (a ++ b) = bv a ++ bv b := by simp [bv]
theorem bv_length (a : List UInt8) : (bv a).length = a.length := by simp [bv]
theorem Try.info5 : (Try.prog.info? 5).map (fun i => (i.zero, i.size, i.bytes)) = some (some (.int .u8 0), 1, 1) := by kernel_rfl

theorem div_pow_lt {M j : Nat} (hM : M < 10 ^ 8) (h : M / 10 ^ j ≠ 0) : j < 8 := by
  rcases Nat.lt_or_ge j 8 with h8 | h8
  · exact h8
  · exact absurd (Nat.div_eq_of_lt (Nat.lt_of_lt_of_le hM (Nat.pow_le_pow_right (by decide) h8))) h

theorem cells_set {cs : List Value} {M k mm : Nat} (hcs : cs.length = 8) (hk : k < 8) (hmm : mm = M / 10 ^ k)
    (h : ∀ i, i < k → cs[i]? = some (.int .u8 ((ExpPlain.db M i).toNat : Int))) :
    ∀ i, i < k + 1 → (cs.set k (.int .u8 (48 + (mm : Int) % 10)))[i]? = some (.int .u8 ((ExpPlain.db M i).toNat : Int)) := by
  intro i hi
  by_cases e : i = k
  · subst e
    rw [List.getElem?_set_self (by omega), ExpPlain.db_toNat, hmm]
    congr 2
  · rw [List.getElem?_set_ne (by omega)]
    exact h i (by omega)

def sgn (e : Int) (pl : Bool) : List UInt8 := if e < 0 then [45] else if pl then [43] else []
theorem sgn_le (e : Int) (pl : Bool) : (sgn e pl).length ≤ 1 := by
  unfold sgn
  repeat' split
  all_goals simp

theorem ret_text {l l' : List UInt8} {a b : Int} (h : l = l') (hab : a = b) :
    Ending.returned (.tuple #[.string ⟨l.toArray⟩, .int .i64 a]) = .returned (.tuple #[.string ⟨l'.toArray⟩, .int .i64 b]) := by rw [h, hab]

theorem Hid.mk' {p : Prop} (h : p) : Hid p := h

theorem rel_app {w wr w1 : World} {B : Nat} {l : List UInt8} {o : Obj} (c : UInt8) (hbel : Below B w wr)
    (hown : w1.ownsRow B 5 1 (.slice (some ⟨B, 0, none⟩) (l.length + 1) 9) (l.length + 1) (bv l ++ [.int .u8 (c.toNat : Int)]))
    (hg : (wr.alloc o).grownBy w1 (some B)) (hB : B ≤ w.heap.size) :
    w1.ownsRow B 5 1 (.slice (some ⟨B, 0, none⟩) (l ++ [c]).length 9) (l ++ [c]).length (bv (l ++ [c])) ∧ Below B w w1 := by
  have hs := hbel.size
  refine ⟨?_, (hbel.alloc (by omega) o).grown hg (by simp; omega) (fun k e => by cases e; exact Nat.le_refl _)⟩
  rw [bv_append, List.length_append]
  exact hown

theorem own_none (W : World) (B : Nat) (hB : W.heap.size = B) (h9 : 9 ≤ maxLen := by decide) :
    Value.slice (some ⟨B, 0, none⟩) 0 9 = .slice (some ⟨B, 0, none⟩) ([] : List UInt8).length 9 ∧
    (W.alloc (.cells #[.int .u8 0, .int .u8 0, .int .u8 0, .int .u8 0, .int .u8 0, .int .u8 0, .int .u8 0, .int .u8 0, .int .u8 0] 5)).ownsRow B 5 1 (.slice (some ⟨B, 0, none⟩) ([] : List UInt8).length 9) ([] : List UInt8).length (bv []) ∧
    Below B W (W.alloc (.cells #[.int .u8 0, .int .u8 0, .int .u8 0, .int .u8 0, .int .u8 0, .int .u8 0, .int .u8 0, .int .u8 0, .int .u8 0] 5)) := by
  subst hB
  exact ⟨rfl, World.ownsRow_made W _ 9 (Nat.le_refl _) h9 rfl, (Below.refl _ _).alloc (Nat.le_refl _) _⟩

theorem own_one (W : World) (c : UInt8) (B : Nat) (hB : W.heap.size = B) (h9 : 9 ≤ maxLen := by decide) :
    Value.slice (some ⟨B, 0, none⟩) 1 9 = .slice (some ⟨B, 0, none⟩) [c].length 9 ∧
    ((W.alloc (.cells #[.int .u8 (c.toNat : Int), .int .u8 0, .int .u8 0, .int .u8 0, .int .u8 0, .int .u8 0, .int .u8 0, .int .u8 0, .int .u8 0] 5)).alloc (.cells #[.int .u8 (c.toNat : Int)] 5)).ownsRow B 5 1 (.slice (some ⟨B, 0, none⟩) [c].length 9) [c].length (bv [c]) ∧
    Below B W ((W.alloc (.cells #[.int .u8 (c.toNat : Int), .int .u8 0, .int .u8 0, .int .u8 0, .int .u8 0, .int .u8 0, .int .u8 0, .int .u8 0, .int .u8 0] 5)).alloc (.cells #[.int .u8 (c.toNat : Int)] 5)) := by
  subst hB
  refine ⟨rfl, World.ownsRow.alloc ⟨rfl, .inr ⟨W.heap.size, 9, _, rfl, Nat.le_refl _, heap_alloc_new W _, (by show 1 ≤ 9; omega), h9, rfl, rfl⟩⟩ _, ?_⟩
  exact ((Below.refl _ _).alloc (Nat.le_refl _) _).alloc (by simp) _

theorem own_cells {wr : World} {B b : Nat} {l : List UInt8} (h : wr.ownsRow B 5 1 (.slice (some ⟨b, 0, none⟩) l.length 9) l.length (bv l)) :
    ∀ j (hj : j < l.length), wr.cell? ((⟨b, 0, none⟩ : Addr).add j) = some (.int .u8 (l[j].toNat : Int)) := by
  intro j hj
  refine h.cells (g := b) rfl j _ ?_
  simp [bv, List.getElem?_eq_getElem hj]

set_option maxHeartbeats 2000000 in
theorem text_any (e wd : Int) (pl : Bool) (M : Nat) (sg : List UInt8) (w : World) (hsg : sg = sgn e pl) (hM : M = e.natAbs) (h1 : M < 10 ^ 8) (h2 : 0 ≤ wd) (h3 : wd ≤ 8) :
    Calls Try.prog 11 #[.int .i64 e, .int .i64 wd, .bool pl] w fun en w' => ∃ d : Nat, 1 ≤ d ∧ d ≤ 8 ∧ M < 10 ^ d ∧ en = .returned (.tuple #[.string ⟨(sg ++ ExpPlain.rd M d).toArray⟩, .int .i64 d]) ∧ Below w.heap.size w w' := by
  have he8 : e ≤ 99999999 := by omega
  have he9 : -99999999 ≤ e := by omega
  have HM : Hid (M = e.natAbs) := hM
  have H1 : Hid (M < 10 ^ 8) := h1
  have HSG : Hid (sg = sgn e pl) := hsg
  clear hM h1 hsg
  obtain ⟨i0, hi, hz0, hz1, hz2⟩ := info_parts Try.info5
  have hmk : ∀ w : World, (Instr.makeSlice 31 (.int .i64 0) (.int .i64 9)).run Try.prog w = .ok (.slice (some ⟨w.heap.size, 0, none⟩) 0 9) (w.alloc (.cells #[.int .u8 0, .int .u8 0, .int .u8 0, .int .u8 0, .int .u8 0, .int .u8 0, .int .u8 0, .int .u8 0, .int .u8 0] 5)) := fun _ => by kernel_rfl
  go_enter Try.func11, Try.ntmps11
  go_upto_if 17 with fail
  go_cut [8] from 15 (fun m wx => m = .int .i64 (M : Int) ∧ w = wx)
  case first =>
    by_cases he : e < 0
    · go_wp2
      go_meet
      case rel => exact ⟨congrArg (Value.int .i64) (by have := HM.out; omega), rfl⟩
    · go_wp2
      go_meet
      case rel => exact ⟨congrArg (Value.int .i64) (by have := HM.out; omega), rfl⟩
  case rest =>
  obtain ⟨rfl, rfl⟩ := hcut
  go_wp2
  go_loopw [8, 10] (fun m n wr => ∃ (k mm : Nat) (cs : List Value), cs.length = 8 ∧ wr = w.alloc (.cells cs.toArray 30) ∧ k < 8 ∧ n = .int .i64 k ∧ m = .int .i64 mm ∧ mm ≤ 99999999 ∧ mm = M / 10 ^ k ∧ (k = 0 ∨ mm ≠ 0) ∧ (∀ i, i < k → cs[i]? = some (.int .u8 ((ExpPlain.db M i).toNat : Int)))) (fun m _ _ => (intOf m).toNat)
  case atStart =>
    exact ⟨0, M, _, rfl, rfl, by omega, rfl, rfl, by have := H1.out; omega, by simp, Or.inl rfl, fun i hi => absurd hi (by omega)⟩
  case round =>
    obtain ⟨k, mm, cs, hcs, rfl, hk, rfl, rfl, hm1, hmm, hnz, hdig⟩ := hrel
    have hki : (k : Int) < 8 := by omega
    have hmi : (mm : Int) ≤ 99999999 := by omega
    have hcell : ∃ v, (w.alloc (.cells cs.toArray 30)).cell? ⟨w.heap.size, k, none⟩ = some v := by
      rw [World.cell?_alloc_mark]
      exact ⟨_, by simp [List.getElem?_eq_getElem (show k < cs.length by omega)]; rfl⟩
    obtain ⟨v, hcell⟩ := hcell
    have HD : Hid (∀ i, i < k + 1 → (cs.set k (.int .u8 (48 + (mm : Int) % 10)))[i]? = some (.int .u8 ((ExpPlain.db M i).toNat : Int))) := cells_set hcs hk hmm hdig
    have hmm2 : mm / 10 = M / 10 ^ (k + 1) := by rw [hmm, Nat.pow_succ, Nat.div_div_eq_div_mul]
    have HMM : Hid (mm / 10 = M / 10 ^ (k + 1)) := hmm2
    have hls : (cs.set k (.int .u8 (48 + (mm : Int) % 10))).length = 8 := by rw [List.length_set]; exact hcs
    have HLS : Hid ((cs.set k (.int .u8 (48 + (mm : Int) % 10))).length = 8) := hls
    clear hmm hmm2 hdig hls hnz
    by_cases hq : ((mm : Int) / 10 == 0) = true
    · have hq0 : mm / 10 = 0 := by rw [beq_iff_eq] at hq; omega
      have HQ : Hid (mm / 10 = 0) := hq0
      clear hq0
      go_upto_if 35 with fail
      generalize cs.set k (Value.int .u8 (48 + (mm : Int) % 10)) = cs2 at *
      clear hcell
      have HP : Hid (M < 10 ^ (k + 1)) := by
        have h5 := HQ.out
        rw [HMM.out] at h5
        exact (Nat.div_eq_zero_iff_lt (Nat.pow_pos (by decide))).1 h5
      clear HMM HQ hq
      have HLS2 := HLS
      go_cut [11] from 15 (fun dd wx => ∃ d : Nat, dd = .int .i64 d ∧ k + 1 ≤ d ∧ d ≤ 8 ∧ wx = w.alloc (.cells cs2.toArray 30))
      case first =>
        by_cases hw : (k : Int) + 1 < wd
        · go_wp2
          go_meet
          case rel =>
            refine ⟨wd.toNat, ?_, by omega, by omega, rfl⟩
            rw [Int.toNat_of_nonneg h2]
        · go_wp2
          go_meet
          case rel => exact ⟨k + 1, by go_num, by omega, by omega, rfl⟩
      case rest =>
        obtain ⟨d, rfl, hd1, hd2, rfl⟩ := hcut
        have hd2' : (d : Int) ≤ 8 := by omega
        clear HLS2 hz0 hz2
        go_upto_if 39 with fail
        go_cut [12] from 15 (fun o wx => o = .slice (some ⟨w.heap.size + 1, 0, none⟩) sg.length 9 ∧ wx.ownsRow (w.heap.size + 1) 5 1 (.slice (some ⟨w.heap.size + 1, 0, none⟩) sg.length 9) sg.length (bv sg) ∧ Below (w.heap.size + 1) (w.alloc (.cells cs2.toArray 30)) wx)
        case first =>
          by_cases he : e < 0
          · have hsg : sg = [45] := by rw [HSG.out]; simp [sgn, he]
            subst hsg
            go_wp2
            go_meet
            case rel => exact own_one (w.alloc (.cells cs2.toArray 30)) 45 (w.heap.size + 1) (by simp)
          · cases pl
            · have hsg : sg = [] := by rw [HSG.out]; simp [sgn, he]
              subst hsg
              go_wp2
              go_meet
              case rel => exact own_none (w.alloc (.cells cs2.toArray 30)) (w.heap.size + 1) (by simp)
            · have hsg : sg = [43] := by rw [HSG.out]; simp [sgn, he]
              subst hsg
              go_wp2
              go_meet
              case rel => exact own_one (w.alloc (.cells cs2.toArray 30)) 43 (w.heap.size + 1) (by simp)
        case rest =>
          obtain ⟨rfl, hown, hbel⟩ := hcut
          have hsl : sg.length ≤ 1 := by rw [HSG.out]; exact sgn_le e pl
          go_wp2
          go_loopw [12, 13] (fun o kk wr => ∃ (j : Nat) (l : List UInt8), k + 1 ≤ j ∧ j ≤ d ∧ kk = .int .i64 j ∧ l = sg ++ List.replicate (j - (k + 1)) 48 ∧ o = .slice (some ⟨w.heap.size + 1, 0, none⟩) l.length 9 ∧ wr.ownsRow (w.heap.size + 1) 5 1 (.slice (some ⟨w.heap.size + 1, 0, none⟩) l.length 9) l.length (bv l) ∧ Below (w.heap.size + 1) (w.alloc (.cells cs2.toArray 30)) wr) (fun _ kk _ => d - (intOf kk).toNat)
          case atStart => exact ⟨k + 1, sg, Nat.le_refl _, hd1, by go_num, by simp, rfl, hown, hbel⟩
          case round =>
            clear hown hbel
            obtain ⟨j, l, hj1, hj2, rfl, hl, rfl, hown, hbel⟩ := hrel
            have hll : l.length = sg.length + (j - (k + 1)) := by rw [hl]; simp
            have HL : Hid (l = sg ++ List.replicate (j - (k + 1)) 48) := hl
            clear hl
            by_cases hjd : j < d
            · have hjd' : (j : Int) < (d : Int) := by omega
              have hl9 : l.length + 1 ≤ 9 := by omega
              clear hll
              go_wp2_with (at_builtin; refine wpList_append_fits _ rfl _ _ 31 rfl (w.heap.size + 1) 5 i0 1 Try.underlying31 hi hz1 (w.heap.size + 1) l.length 9 (bv l) rfl (hown.alloc _) ⟨wr.heap.size, 0, none⟩ 1 1 [.int .u8 48] rfl rfl ?c1 ?c2 hl9 ?_)
              case c1 => exact cell_one_new _ _ _
              case c2 => intro u hu; simp at hu; subst hu; rfl
              intro w1 hown' hgrow
              have R := rel_app 48 hbel hown' hgrow (by simp)
              have HR := Hid.mk' R
              clear R hown' hgrow hown hbel
              go_wp2
              go_roundw
              case rel =>
                refine ⟨j + 1, l ++ [48], by omega, by omega, by go_num, ?_, by simp, HR.out.1, HR.out.2⟩
                rw [HL.out, List.append_assoc, ← List.replicate_succ', show j + 1 - (k + 1) = j - (k + 1) + 1 from by omega]
              case measure => simp [intOf]; omega
            · obtain rfl : j = d := by omega
              have HL2 : Hid (l ++ ExpPlain.rd M (k + 1) = sg ++ ExpPlain.rd M j) := by
                show l ++ ExpPlain.rd M (k + 1) = sg ++ ExpPlain.rd M j
                rw [HL.out, List.append_assoc, ← ExpPlain.rd_pad M (k + 1) j HP.out hd1]
              clear HL hjd
              go_wp2
              go_loopw [12, 14] (fun o kk wr => ∃ (i : Nat) (l : List UInt8) (ki : Int), ki + 1 = (i : Int) ∧ i ≤ k + 1 ∧ kk = .int .i64 ki ∧ l ++ ExpPlain.rd M i = sg ++ ExpPlain.rd M j ∧ o = .slice (some ⟨w.heap.size + 1, 0, none⟩) l.length 9 ∧ wr.ownsRow (w.heap.size + 1) 5 1 (.slice (some ⟨w.heap.size + 1, 0, none⟩) l.length 9) l.length (bv l) ∧ Below (w.heap.size + 1) (w.alloc (.cells cs2.toArray 30)) wr) (fun _ kk _ => (intOf kk + 1).toNat)
              case atStart => exact ⟨k + 1, l, _, by omega, Nat.le_refl _, rfl, HL2.out, rfl, hown, hbel⟩
              case round =>
                clear hown hbel HL2 hll
                obtain ⟨i, l, ki, hi1, hi2, rfl, hl, rfl, hown, hbel⟩ := hrel
                have hll : l.length + i = sg.length + j := by
                  have := congrArg List.length hl
                  simpa [ExpPlain.rd_length] using this
                by_cases hi0 : 0 < i
                · obtain ⟨i', rfl⟩ : ∃ i', i = i' + 1 := ⟨i - 1, by omega⟩
                  obtain rfl : ki = (i' : Int) := by omega
                  have hl9 : l.length + 1 ≤ 9 := by omega
                  have HL3 : Hid ((l ++ [ExpPlain.db M i']) ++ ExpPlain.rd M i' = sg ++ ExpPlain.rd M j) := by
                    show (l ++ [ExpPlain.db M i']) ++ ExpPlain.rd M i' = sg ++ ExpPlain.rd M j
                    rw [← hl, List.append_assoc]; rfl
                  have hcx : wr.cell? ⟨w.heap.size, i', none⟩ = some (.int .u8 ((ExpPlain.db M i').toNat : Int)) := by
                    rw [hbel.cell (p := ⟨w.heap.size, i', none⟩) (by simp), World.cell?_alloc_mark, List.getElem?_toArray]
                    exact HD.out i' (by omega)
                  have hi8 : (i' : Int) < 8 := by omega
                  clear hl hll hi1 hi0
                  go_wp2_with (at_builtin; refine wpList_append_fits _ rfl _ _ 31 rfl (w.heap.size + 1) 5 i0 1 Try.underlying31 hi hz1 (w.heap.size + 1) l.length 9 (bv l) rfl (hown.alloc _) ⟨wr.heap.size, 0, none⟩ 1 1 [.int .u8 ((ExpPlain.db M i').toNat : Int)] rfl rfl ?c1b ?c2b hl9 ?_)
                  case c1b => exact cell_one_new _ _ _
                  case c2b => intro u hu; simp at hu; subst hu; rfl
                  intro w1 hown' hgrow
                  have R := rel_app (ExpPlain.db M i') hbel hown' hgrow (by simp)
                  have HR := Hid.mk' R
                  clear R hown' hgrow hown hbel hcx
                  go_wp2
                  go_roundw
                  case rel =>
                    exact ⟨i', l ++ [ExpPlain.db M i'], (i' : Int) - 1, by omega, by omega, by go_num, HL3.out, by simp, HR.out.1, HR.out.2⟩
                  case measure => simp [intOf]
                · obtain rfl : i = 0 := by omega
                  obtain rfl : ki = -1 := by omega
                  have HL4 : Hid (l = sg ++ ExpPlain.rd M j) := by
                    show l = sg ++ ExpPlain.rd M j
                    rw [← hl]; simp [ExpPlain.rd]
                  have hcv := run_convert_bytes_back (P := Try.prog) wr 31 9 5 ⟨w.heap.size + 1, 0, none⟩ 9 l Try.underlying31 Try.underlying5 Try.underlying9 (own_cells hown)
                  have HB : Hid (Below w.heap.size w wr) := by
                    refine Below.trans ?_ (hbel.mono (Nat.le_succ _))
                    exact (Below.refl _ _).alloc (Nat.le_refl _) _
                  have HP2 : Hid (M < 10 ^ j) := Nat.lt_of_lt_of_le HP.out (Nat.pow_le_pow_right (by decide) hd1)
                  clear hl hll hown hbel hi1 hi0
                  go_wp2
                  go_ret2
                  exact ⟨j, by omega, hd2, HP2.out, ret_text HL4.out rfl, HB.out⟩
    · have hq' : ((mm : Int) / 10 == 0) = false := by simpa using hq
      have hq0 : mm / 10 ≠ 0 := by rw [beq_eq_false_iff_ne] at hq'; omega
      clear hq
      go_wp2
      go_roundw
      case rel =>
        refine ⟨k + 1, mm / 10, _, HLS.out, rfl, ?_, by go_num, by go_num, by omega, HMM.out, Or.inr hq0, HD.out⟩
        exact div_pow_lt H1.out (by rw [← HMM.out]; exact hq0)
      case measure => simp [intOf]; omega
end Go.Proofs.Qxb6602801a
