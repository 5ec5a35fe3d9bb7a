import Derived.Test.Qxb6603764aAgrees
import Derived.ProofKit
import Derived.OpenShut
import Derived.ShutString
import Derived.ChangeOld
import Derived.Below
import Derived.Deep.Strs
namespace Go.Proofs.Qxb6603764a
open Go.ChangeShapes Go.WideShapes Go.ChangeAt Go.RowKit

/-- What the walk is told of a queue that came in. -/
def IsQueue (w : World) (ao : Option Addr) (n : Nat) : Prop :=
  n = 0 ∨ ∃ (b off : Nat) (N : Nat → ByteArray) (K S : Nat → Int), ao = some ⟨b, off, none⟩ ∧ Row3 w b off n N K S ∧ b < w.heap.size ∧ n ≤ maxLen ∧ (∀ i, i < n → (N i).size ≤ maxLen)

theorem cells35 : Try.prog.cellsOf 35 = 3 := by kernel_rfl
theorem cells9 : Try.prog.cellsOf 9 = 1 := by kernel_rfl
theorem cells3 : Try.prog.cellsOf 3 = 1 := by kernel_rfl
theorem cells2 : Try.prog.cellsOf 2 = 1 := by kernel_rfl

theorem open_queue {H : Type} {enc : TypeId × Value → H} {w : World} {spare : Nat → Bool} {held : Bool} {fuel : Nat} {ao : Option Addr} {n cap : Nat} {x : DataW H × List MemPlace}
    (h : DataW.trod enc Try.prog w 0 spare held fuel 22 [.slice ao n cap] = some x) : IsQueue w ao n := by
  rcases Go.Deep.open_slice Try.underlying22 h with ⟨hcs, _⟩ | ⟨a, len, cap', m, f, D, Pl, hcs, _, hl, hm, hmm, _, hx⟩
  · simp at hcs
    exact Or.inl hcs.2.1
  · simp only [List.cons.injEq, Value.slice.injEq, and_true] at hcs
    obtain ⟨rfl, rfl, rfl⟩ := hcs
    rcases Nat.eq_zero_or_pos n with h0 | h0
    · exact Or.inl h0
    right
    have hle : n ≤ m := by rw [hmm]; split <;> omega
    rw [cells35] at hx
    have each : ∀ i, i < n → ∃ q : ByteArray × Int × Int, w.cell? (a.add (i * 3)) = some (.string q.1) ∧ w.cell? (a.add (i * 3 + 1)) = some (.int .i64 q.2.1) ∧ w.cell? (a.add (i * 3 + 2)) = some (.int .i64 q.2.2) ∧ q.1.size ≤ maxLen := by
      intro i hi
      obtain ⟨cs', h1, h2⟩ := hx i (by omega)
      obtain ⟨_, hlen, hcell⟩ := World.cells?_some h1
      obtain ⟨y0, y1, y2, k, _, _, g0, g1, g2⟩ := Go.Deep.trod_struct3 Try.underlying35 h2
      match cs', hlen with
      | [v0, v1, v2], _ =>
        have e0 := hcell 0 (by omega)
        have e1 := hcell 1 (by omega)
        have e2 := hcell 2 (by omega)
        rw [Go.Deep.add_add] at e0 e1 e2
        simp [cells9, cells3, cells2] at g0 g1 g2
        obtain ⟨s, hs, _, hsz⟩ := DataW.trod_string Try.underlying9 g0
        obtain ⟨k1, hk1, _, _⟩ := DataW.trod_int Try.underlying3 g1
        obtain ⟨k2, hk2, _, _⟩ := DataW.trod_int Try.underlying2 g2
        simp at hs hk1 hk2 e0 e1 e2
        subst hs hk1 hk2
        exact ⟨(s, k1, k2), e0, e1, e2, hsz⟩
    obtain ⟨q, hq⟩ := Go.Deep.choose_lt each
    obtain ⟨b, off, spot⟩ := a
    have hc := (hq 0 h0).1
    have hspot : spot = none := by simpa [Addr.add] using World.cell?_spot hc
    subst hspot
    have hadd : ∀ j, (⟨b, off, none⟩ : Addr).add j = ⟨b, off + j, none⟩ := by
      intro j; unfold Addr.add; split <;> simp_all
    have hblk : b < w.heap.size := by
      have := World.block_lt_of_cell? w _ hc
      rw [hadd] at this
      exact this
    refine ⟨b, off, fun i => (q i).1, fun i => (q i).2.1, fun i => (q i).2.2, rfl, ⟨fun i hi => ?_, fun i hi => ?_, fun i hi => ?_⟩, hblk, by omega, fun i hi => (hq i hi).2.2.2⟩
    · have := (hq i hi).1
      rw [hadd] at this; exact this
    · have := (hq i hi).2.1
      rw [hadd] at this; exact this
    · have := (hq i hi).2.2.1
      rw [hadd] at this; exact this
end Go.Proofs.Qxb6603764a
