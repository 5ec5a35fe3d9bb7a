import Derived.Test.Qxb6603764aGuards
import Derived.Deep.RegionHeld3
import Derived.Deep.Cut
namespace Go.Proofs.Qxb6603764a
open Go.RowKit

set_option maxHeartbeats 400000 in
theorem make_any (nm : ByteArray) (k s : Int) (w : World) :
    Calls Try.prog 14 #[.string nm, .int .i64 k, .int .i64 s] w fun e w' => e = .returned (.agg #[.string nm, .int .i64 k, .int .i64 s]) ∧ w' = w.alloc (.cells #[.string nm, .int .i64 k, .int .i64 s] 29) := by
  go_enter Try.func14, Try.ntmps14
  go_wp2
  exact bodyPost_ret (v := .agg #[.string nm, .int .i64 k, .int .i64 s]) (by simp [results, Try.results14, go_sem]) rfl ⟨rfl, rfl⟩

theorem Try.info29 : (Try.prog.info? 29).map (fun i => (i.zero, i.size, i.bytes)) = some (some (.agg #[.string ⟨#[]⟩, .int .i64 0, .int .i64 0]), 3, 32) := by kernel_rfl

/-- A 'make' of n contenders, n a variable. -/
theorem run_make3 (n : Nat) (hn : n ≤ 4096) (w : World) :
    (Instr.makeSlice 25 (.int .i64 (n : Int)) (.int .i64 (n : Int))).run Try.prog w = .ok (.slice (some ⟨w.heap.size, 0, none⟩) n n) (w.alloc (.cells (madeCells #[.string ⟨#[]⟩, .int .i64 0, .int .i64 0] (n * 3)) 29)) := by
  obtain ⟨i, hi, hzz⟩ := Option.map_eq_some_iff.1 Try.info29
  simp only [Prod.mk.injEq] at hzz
  obtain ⟨hz, hs, hb⟩ := hzz
  have hr := run_make (P := Try.prog) w 25 29 i _ Try.underlying25 hi hz .i64 .i64 n n (by omega) (Int.le_refl _) (by rw [hb]; omega) (by omega)
  simp only [Int.toNat_natCast, hs] at hr
  exact hr

/-- What toProject has made behind k rounds. -/
structure TP (w wr : World) (n k : Nat) (N : Nat → ByteArray) (K S : Nat → Int) : Prop where
  below : Below w.heap.size w wr
  size : w.heap.size < wr.heap.size
  there : ∀ j, j < n * 3 → ∃ v, wr.cell? ⟨w.heap.size, j, none⟩ = some v
  free : ∀ j, wr.frozen? ⟨w.heap.size, j, none⟩ = false
  done : Row3 wr w.heap.size 0 k N K S

theorem tp_start (w : World) (n : Nat) (N : Nat → ByteArray) (K S : Nat → Int) :
    TP w (w.alloc (.cells (madeCells #[.string ⟨#[]⟩, .int .i64 0, .int .i64 0] (n * 3)) 29)) n 0 N K S where
  below := (Below.refl _ _).alloc (Nat.le_refl _) _
  size := by simp
  there := fun j hj => by
    have h := World.cell?_alloc_mark w (madeCells #[.string ⟨#[]⟩, .int .i64 0, .int .i64 0] (n * 3)) 29 (0, 0) j
    have hs : j < (madeCells #[.string ⟨#[]⟩, .int .i64 0, .int .i64 0] (n * 3)).size := by rw [size_madeCells]; exact hj
    exact ⟨_, h.trans (Array.getElem?_eq_getElem hs)⟩
  free := fun j => by simp
  done := ⟨fun i hi => absurd hi (by omega), fun i hi => absurd hi (by omega), fun i hi => absurd hi (by omega)⟩

theorem cell_set {w : World} {B j i : Nat} {v u : Value} (h : w.cell? ⟨B, i, none⟩ = some u) (hne : j ≠ i) : (w.setCell ⟨B, j, none⟩ v).cell? ⟨B, i, none⟩ = some u := by
  rw [World.cell?_setCell_other _ _ _ _ (by intro e; cases e; exact hne rfl)]; exact h

theorem cell_after {w : World} {B i : Nat} {u : Value} (o : Obj) (h : w.cell? ⟨B, i, none⟩ = some u) : (w.alloc o).drew.cell? ⟨B, i, none⟩ = some u := by
  rw [World.cell?_drew]
  rw [World.cell?_alloc_some _ _ _ (by rw [h]; rfl)]; exact h

theorem tp_step {w wr : World} {n k : Nat} {N : Nat → ByteArray} {K S : Nat → Int} {o : Obj} (h : TP w wr n k N K S) (hk : k < n) :
    TP w ((((wr.setCell ⟨w.heap.size, k * 3, none⟩ (.string (N k))).setCell ⟨w.heap.size, k * 3 + 1, none⟩ (.int .i64 (K k))).setCell ⟨w.heap.size, k * 3 + 2, none⟩ (.int .i64 (S k))).alloc o).drew n (k + 1) N K S := by
  obtain ⟨v0, hv0⟩ := h.there (k * 3) (by omega)
  obtain ⟨v1, hv1⟩ := h.there (k * 3 + 1) (by omega)
  obtain ⟨v2, hv2⟩ := h.there (k * 3 + 2) (by omega)
  have hsz : (((wr.setCell ⟨w.heap.size, k * 3, none⟩ (.string (N k))).setCell ⟨w.heap.size, k * 3 + 1, none⟩ (.int .i64 (K k))).setCell ⟨w.heap.size, k * 3 + 2, none⟩ (.int .i64 (S k))).heap.size = wr.heap.size := by simp [World.setCell]
  have keep : ∀ {j : Nat} {u : Value}, wr.cell? ⟨w.heap.size, j, none⟩ = some u → j < k * 3 →
      ((((wr.setCell ⟨w.heap.size, k * 3, none⟩ (.string (N k))).setCell ⟨w.heap.size, k * 3 + 1, none⟩ (.int .i64 (K k))).setCell ⟨w.heap.size, k * 3 + 2, none⟩ (.int .i64 (S k))).alloc o).drew.cell? ⟨w.heap.size, j, none⟩ = some u := by
    intro j u hu hj
    exact cell_after o (cell_set (cell_set (cell_set hu (by omega)) (by omega)) (by omega))
  refine ⟨?_, ?_, ?_, ?_, ⟨?_, ?_, ?_⟩⟩
  · exact ((((h.below.setCell (Nat.le_refl _) _).setCell (Nat.le_refl _) _).setCell (Nat.le_refl _) _).alloc (by rw [hsz]; exact Nat.le_of_lt h.size) _).drew
  · refine Nat.lt_of_lt_of_le h.size (Nat.le_trans (Nat.le_of_eq hsz.symm) ?_)
    exact ((Below.refl 0 _).alloc (Nat.zero_le _) o).drew.size
  · intro j hj
    obtain ⟨u, hu⟩ := h.there j hj
    obtain ⟨u1, hu1⟩ := cell?_setCell_some (p := ⟨w.heap.size, k * 3, none⟩) (x := .string (N k)) hu
    obtain ⟨u2, hu2⟩ := cell?_setCell_some (p := ⟨w.heap.size, k * 3 + 1, none⟩) (x := .int .i64 (K k)) hu1
    obtain ⟨u3, hu3⟩ := cell?_setCell_some (p := ⟨w.heap.size, k * 3 + 2, none⟩) (x := .int .i64 (S k)) hu2
    exact ⟨u3, cell_after o hu3⟩
  · intro j
    have := h.size
    rw [World.frozen?_drew, World.frozen?_alloc_old _ _ _ (by rw [hsz]; simp; omega), World.frozen?_setCell, World.frozen?_setCell, World.frozen?_setCell]
    exact h.free j
  · intro i hi
    by_cases e : i = k
    · subst e
      rw [Nat.zero_add]
      exact cell_after o (cell_set (cell_set (World.cell?_setCell_same _ _ _ hv0) (by omega)) (by omega))
    · have := h.done.name i (by omega)
      rw [Nat.zero_add] at this ⊢
      exact keep this (by omega)
  · intro i hi
    by_cases e : i = k
    · subst e
      rw [Nat.zero_add]
      exact cell_after o (cell_set (World.cell?_setCell_same _ _ _ (cell_set hv1 (by omega))) (by omega))
    · have := h.done.kind i (by omega)
      rw [Nat.zero_add] at this ⊢
      exact keep this (by omega)
  · intro i hi
    by_cases e : i = k
    · subst e
      rw [Nat.zero_add]
      exact cell_after o (World.cell?_setCell_same _ _ _ (cell_set (cell_set hv2 (by omega)) (by omega)))
    · have := h.done.seq i (by omega)
      rw [Nat.zero_add] at this ⊢
      exact keep this (by omega)

set_option maxHeartbeats 1000000 in
theorem toProject_any (b off n cap : Nat) (N : Nat → ByteArray) (K S : Nat → Int) (w : World) (h : Row3 w b off n N K S) (hb : b < w.heap.size) (hn : n ≤ 4096) :
    Calls Try.prog 8 #[.slice (some ⟨b, off, none⟩) n cap] w fun e w' => e = .returned (.slice (some ⟨w.heap.size, 0, none⟩) n n) ∧ TP w w' n n N K S := by
  have hmk := run_make3 n hn
  have hn' : (n : Int) ≤ 4096 := by omega
  go_enter Try.func8, Try.ntmps8
  go_wp2
  go_loopw [4] (fun j wr => ∃ k : Nat, j = .int .i64 (k : Int) ∧ k ≤ n ∧ TP w wr n k N K S) (fun j _ => n - (intOf j).toNat)
  case atStart => exact ⟨0, rfl, Nat.zero_le _, tp_start w n N K S⟩
  case round =>
    obtain ⟨k, rfl, hk, htp⟩ := hrel
    by_cases hlt : k < n
    · have hlt' : (k : Int) < (n : Int) := by omega
      have hk0 : (0 : Int) ≤ (k : Int) := by omega
      have hcn : wr.cell? ⟨b, off + k * 3, none⟩ = some (.string (N k)) := (htp.below.cell hb).trans (h.name k hlt)
      have hck : wr.cell? ⟨b, off + k * 3 + 1, none⟩ = some (.int .i64 (K k)) := (htp.below.cell hb).trans (h.kind k hlt)
      have hcs : wr.cell? ⟨b, off + k * 3 + 2, none⟩ = some (.int .i64 (S k)) := (htp.below.cell hb).trans (h.seq k hlt)
      obtain ⟨v0, hv0⟩ := htp.there (k * 3) (by omega)
      obtain ⟨v1, hv1⟩ := htp.there (k * 3 + 1) (by omega)
      obtain ⟨v2, hv2⟩ := htp.there (k * 3 + 2) (by omega)
      have hf0 := htp.free (k * 3)
      have hf1 := htp.free (k * 3 + 1)
      have hf2 := htp.free (k * 3 + 2)
      have hsz := htp.size
      have HTP : Hid (TP w wr n k N K S) := htp
      have hne : ¬ w.heap.size = b := by omega
      have hne2 : ¬ b = w.heap.size := by omega
      have hnw := World.new_ne wr _ hcn
      have hnk := World.new_ne wr _ hck
      have hns := World.new_ne wr _ hcs
      clear htp
      go_wp2_with fail
      go_region_held3 (fun w' => w'.cell? ⟨b, off + k * 3, none⟩ = some (.string (N k)) ∧ w'.cell? ⟨b, off + k * 3 + 1, none⟩ = some (.int .i64 (K k)) ∧ w'.cell? ⟨b, off + k * 3 + 2, none⟩ = some (.int .i64 (S k))) (go_keep) (first | (go_at_call 14; refine (make_any _ _ _ _).mono ?_; rintro e w' ⟨rfl, rfl⟩))
      clear hnw hnk hns hne hne2 hv0 hv1 hv2 hf0 hf1 hf2 hcn hck hcs
      go_wp2
      go_roundw
      case rel => exact ⟨k + 1, by go_num, by omega, tp_step HTP.out hlt⟩
      case measure => simp [intOf]; omega
    · obtain rfl : k = n := by omega
      have HTP : Hid (TP w wr k k N K S) := htp
      clear htp
      go_wp2
      go_ret
      exact ⟨rfl, HTP.out⟩
end Go.Proofs.Qxb6603764a
