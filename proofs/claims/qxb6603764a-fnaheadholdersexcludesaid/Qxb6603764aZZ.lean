import Derived.Test.Qxb6603764aAhead
import Derived.BigQuiet
namespace Go.Proofs.Qxb6603764a
open Go.RowKit

theorem Row3.alloc {w : World} {g off n : Nat} {N : Nat → ByteArray} {K S : Nat → Int} (h : Row3 w g off n N K S) (hg : g < w.heap.size) (o : Obj) : Row3 (w.alloc o) g off n N K S :=
  ⟨fun i hi => (World.cell?_alloc_old _ _ _ (by simp; omega)).trans (h.name i hi), fun i hi => (World.cell?_alloc_old _ _ _ (by simp; omega)).trans (h.kind i hi), fun i hi => (World.cell?_alloc_old _ _ _ (by simp; omega)).trans (h.seq i hi)⟩
theorem Row3.below {w w' : World} {B g off n : Nat} {N : Nat → ByteArray} {K S : Nat → Int} (h : Row3 w g off n N K S) (hb : Below B w w') (hg : g < B) : Row3 w' g off n N K S :=
  ⟨fun i hi => (hb.cell hg).trans (h.name i hi), fun i hi => (hb.cell hg).trans (h.kind i hi), fun i hi => (hb.cell hg).trans (h.seq i hi)⟩

set_option maxHeartbeats 1000000 in
theorem zzAhead_any (g n i : Nat) (N : Nat → ByteArray) (K S : Nat → Int) (w : World) (h : Row3 w g 0 n N K S) (hg : g < w.heap.size) (hn : n ≤ 4096) (hi : i < n) :
    Calls Try.prog 9 #[.slice (some ⟨g, 0, none⟩) n n, .int .i64 (i : Int)] w fun e w' => AheadPost N K S i w e w' := by
  go_enter Try.func9, Try.ntmps9
  go_wp2_with fail
  refine (ahead_any g n i N K S _ (h.alloc hg _) (by simp; omega) hn hi).mono ?_
  rintro e w1 ⟨rfl, hb⟩
  have hsz : (w.alloc (.cells #[.string ⟨#[]⟩, .int .i64 0, .int .i64 0] 29)).heap.size = w.heap.size + 1 := by simp
  rw [hsz] at hb
  have c0 : w1.cell? ⟨w.heap.size, 0, none⟩ = some (.string ⟨#[]⟩) := (hb.cell (p := ⟨w.heap.size, 0, none⟩) (by simp)).trans (by simp)
  have c1 : w1.cell? ⟨w.heap.size, 1, none⟩ = some (.int .i64 0) := (hb.cell (p := ⟨w.heap.size, 1, none⟩) (by simp)).trans (by simp)
  have c2 : w1.cell? ⟨w.heap.size, 2, none⟩ = some (.int .i64 0) := (hb.cell (p := ⟨w.heap.size, 2, none⟩) (by simp)).trans (by simp)
  have f0 : w1.frozen? ⟨w.heap.size, 0, none⟩ = false := (hb.frozen (p := ⟨w.heap.size, 0, none⟩) (by simp)).trans (by simp)
  have f1 : w1.frozen? ⟨w.heap.size, 1, none⟩ = false := (hb.frozen (p := ⟨w.heap.size, 1, none⟩) (by simp)).trans (by simp)
  have f2 : w1.frozen? ⟨w.heap.size, 2, none⟩ = false := (hb.frozen (p := ⟨w.heap.size, 2, none⟩) (by simp)).trans (by simp)
  have HB : Hid (Below w.heap.size w w1) := ((Below.refl _ _).alloc (Nat.le_refl _) _).trans (hb.mono (Nat.le_succ _))
  clear hb hsz h
  cases ho : Ahead.ahead K i with
  | none =>
    have HO : Hid (Ahead.ahead K i = none) := ho
    clear ho
    simp only [agg3, Option.isSome_none]
    go_wp2
    exact bodyPost_ret (v := .tuple #[.agg #[.string ⟨#[]⟩, .int .i64 0, .int .i64 0], .bool false]) (by simp [results, Try.results9, go_sem, c0, c1, c2]) rfl (post_none HO.out (((HB.out.setCell (Nat.le_refl _) _).setCell (Nat.le_refl _) _).setCell (Nat.le_refl _) _))
  | some j =>
    have HO : Hid (Ahead.ahead K i = some j) := ho
    clear ho
    simp only [agg3, Option.isSome_some]
    go_wp2
    exact bodyPost_ret (v := .tuple #[.agg #[.string (N j), .int .i64 (K j), .int .i64 (S j)], .bool true]) (by simp [results, Try.results9, go_sem, c0, c1, c2]) rfl (post_some HO.out (((HB.out.setCell (Nat.le_refl _) _).setCell (Nat.le_refl _) _).setCell (Nat.le_refl _) _))

set_option maxHeartbeats 1000000 in
theorem fields_any (nm : ByteArray) (k s : Int) (w : World) :
    Calls Try.prog 10 #[.agg #[.string nm, .int .i64 k, .int .i64 s]] w fun e w' => e = .returned (.tuple #[.string nm, .int .i64 k, .int .i64 s]) ∧ Below w.heap.size w w' := by
  go_enter Try.func10, Try.ntmps10
  go_wp2
  go_region
  go_wp2
  go_ret3
  exact ⟨rfl, ((Below.refl _ _).alloc (Nat.le_refl _) _).drew⟩
end Go.Proofs.Qxb6603764a
