/-
  Law A: the world behind NewLineReader, and behind the two makes that follow. No walk.
-/
import Derived.Test.YbulkdlooDoorSt
namespace Go.Proofs.YbulkdlooDoor.A
open Go Go.RowKit Go.Deep Go.Proofs.YbulkdlooDoor.Lib

theorem cell_new (w : World) (c : Array Value) (t : TypeId) {n : Nat} (h : n = w.heap.size) (i : Nat) : (w.alloc (.cells c t)).cell? ⟨n, i, none⟩ = c[i]? := by
  subst h
  unfold World.cell?
  simp only
  rw [blk_alloc_new]
  rfl
theorem frozen_new (w : World) (c : Array Value) (t : TypeId) {n : Nat} (h : n = w.heap.size) (i : Nat) : (w.alloc (.cells c t)).frozen? ⟨n, i, none⟩ = false := by
  subst h
  unfold World.frozen?
  simp only
  rw [blk_alloc_new]
  simp
theorem cell_old (w : World) (o : Obj) {p : Addr} (h : p.block < w.heap.size) : (w.alloc o).cell? p = w.cell? p := World.cell?_alloc_old _ _ _ (by omega)
theorem frozen_old (w : World) (o : Obj) {p : Addr} (h : p.block < w.heap.size) : (w.alloc o).frozen? p = w.frozen? p := World.frozen?_alloc_old _ _ _ (by omega)

structure Pre (w W : World) (n : Nat) (Z : Nat → Int) : Prop where
  since : w.Since w.heap.size W
  size : W.heap.size = w.heap.size + 6
  bf : W.rowIs w.heap.size 5 n (fun j => .int .u8 (Z j))
  kp : W.rowIs (w.heap.size + 1) 5 n (fun j => .int .u8 (Z j))
  s0 : W.cell? ⟨w.heap.size + 2, 0, none⟩ = some (.slice (some ⟨w.heap.size, 0, none⟩) n n)
  s1 : W.cell? ⟨w.heap.size + 2, 1, none⟩ = some (.int .i64 0)
  s2 : W.cell? ⟨w.heap.size + 2, 2, none⟩ = some (.int .i64 0)
  sf : ∀ j, W.frozen? ⟨w.heap.size + 2, j, none⟩ = false
  r0 : W.cell? ⟨w.heap.size + 3, 0, none⟩ = some (.slice (some ⟨w.heap.size + 4, 0, none⟩) 4096 4096)
  r1 : W.cell? ⟨w.heap.size + 3, 1, none⟩ = some (.iface 23 (.pointer (some ⟨w.heap.size + 2, 0, none⟩)))
  r2 : W.cell? ⟨w.heap.size + 3, 2, none⟩ = some (.int .i64 0)
  r3 : W.cell? ⟨w.heap.size + 3, 3, none⟩ = some (.int .i64 0)
  r4 : W.cell? ⟨w.heap.size + 3, 4, none⟩ = some .nilIface
  r5 : W.cell? ⟨w.heap.size + 3, 5, none⟩ = some (.int .i64 (-1))
  r6 : W.cell? ⟨w.heap.size + 3, 6, none⟩ = some (.int .i64 (-1))
  rf : ∀ j, W.frozen? ⟨w.heap.size + 3, j, none⟩ = false
  cr : W.rowIs (w.heap.size + 4) 5 4096 (fun _ => .int .u8 0)
  l0 : W.cell? ⟨w.heap.size + 5, 0, none⟩ = some (.pointer (some ⟨w.heap.size + 3, 0, none⟩))
  l1 : W.cell? ⟨w.heap.size + 5, 1, none⟩ = some .nilIface
  l2 : W.cell? ⟨w.heap.size + 5, 2, none⟩ = some (.bool false)

theorem Pre.drewN {w W : World} {n : Nat} {Z : Nat → Int} (h : Pre w W n Z) (d : Nat) : Pre w (W.drewN d) n Z :=
  ⟨⟨h.since.os, h.since.tape, h.since.output, h.since.size, h.since.block⟩, h.size, h.bf, h.kp, h.s0, h.s1, h.s2, h.sf, h.r0, h.r1, h.r2, h.r3, h.r4, h.r5, h.r6, h.rf, h.cr, h.l0, h.l1, h.l2⟩

theorem pre_mk {w w2 : World} {n : Nat} {Z : Nat → Int} (hS : w.Since w.heap.size w2) (hz : w2.heap.size = w.heap.size + 2) (hb : w2.rowIs w.heap.size 5 n (fun j => .int .u8 (Z j))) (hk : w2.rowIs (w.heap.size + 1) 5 n (fun j => .int .u8 (Z j))) :
    Pre w ((((w2.alloc (.cells #[.slice (some ⟨w.heap.size, 0, none⟩) n n, .int .i64 0, .int .i64 0] 25)).alloc
      (.cells #[.slice (some ⟨w.heap.size + 4, 0, none⟩) 4096 4096, .iface 23 (.pointer (some ⟨w.heap.size + 2, 0, none⟩)), .int .i64 0, .int .i64 0, .nilIface, .int .i64 (-1), .int .i64 (-1)] 45)).alloc (.cells (madeCells #[.int .u8 0] 4096) 5)).alloc
      (.cells #[.pointer (some ⟨w.heap.size + 3, 0, none⟩), .nilIface, .bool false] 32)) n Z := by
  have hcr := World.rowIs_made ((w2.alloc (.cells #[.slice (some ⟨w.heap.size, 0, none⟩) n n, .int .i64 0, .int .i64 0] 25)).alloc
      (.cells #[.slice (some ⟨w.heap.size + 4, 0, none⟩) 4096 4096, .iface 23 (.pointer (some ⟨w.heap.size + 2, 0, none⟩)), .int .i64 0, .int .i64 0, .nilIface, .int .i64 (-1), .int .i64 (-1)] 45)) (.int .u8 0) 4096 5
  rw [nblk_alloc, nblk_alloc, hz] at hcr
  have cs : ∀ j, ((((w2.alloc (.cells #[.slice (some ⟨w.heap.size, 0, none⟩) n n, .int .i64 0, .int .i64 0] 25)).alloc
      (.cells #[.slice (some ⟨w.heap.size + 4, 0, none⟩) 4096 4096, .iface 23 (.pointer (some ⟨w.heap.size + 2, 0, none⟩)), .int .i64 0, .int .i64 0, .nilIface, .int .i64 (-1), .int .i64 (-1)] 45)).alloc (.cells (madeCells #[.int .u8 0] 4096) 5)).alloc
      (.cells #[.pointer (some ⟨w.heap.size + 3, 0, none⟩), .nilIface, .bool false] 32)).cell? ⟨w.heap.size + 2, j, none⟩ = (#[.slice (some ⟨w.heap.size, 0, none⟩) n n, .int .i64 0, .int .i64 0] : Array Value)[j]? := fun j => by
    rw [cell_old _ _ (by simp only [nblk_alloc]; omega), cell_old _ _ (by simp only [nblk_alloc]; omega), cell_old _ _ (by simp only [nblk_alloc]; omega), cell_new _ _ _ (by omega)]
  have fs : ∀ j, ((((w2.alloc (.cells #[.slice (some ⟨w.heap.size, 0, none⟩) n n, .int .i64 0, .int .i64 0] 25)).alloc
      (.cells #[.slice (some ⟨w.heap.size + 4, 0, none⟩) 4096 4096, .iface 23 (.pointer (some ⟨w.heap.size + 2, 0, none⟩)), .int .i64 0, .int .i64 0, .nilIface, .int .i64 (-1), .int .i64 (-1)] 45)).alloc (.cells (madeCells #[.int .u8 0] 4096) 5)).alloc
      (.cells #[.pointer (some ⟨w.heap.size + 3, 0, none⟩), .nilIface, .bool false] 32)).frozen? ⟨w.heap.size + 2, j, none⟩ = false := fun j => by
    rw [frozen_old _ _ (by simp only [nblk_alloc]; omega), frozen_old _ _ (by simp only [nblk_alloc]; omega), frozen_old _ _ (by simp only [nblk_alloc]; omega), frozen_new _ _ _ (by omega)]
  have crr : ∀ j, ((((w2.alloc (.cells #[.slice (some ⟨w.heap.size, 0, none⟩) n n, .int .i64 0, .int .i64 0] 25)).alloc
      (.cells #[.slice (some ⟨w.heap.size + 4, 0, none⟩) 4096 4096, .iface 23 (.pointer (some ⟨w.heap.size + 2, 0, none⟩)), .int .i64 0, .int .i64 0, .nilIface, .int .i64 (-1), .int .i64 (-1)] 45)).alloc (.cells (madeCells #[.int .u8 0] 4096) 5)).alloc
      (.cells #[.pointer (some ⟨w.heap.size + 3, 0, none⟩), .nilIface, .bool false] 32)).cell? ⟨w.heap.size + 3, j, none⟩ = (#[.slice (some ⟨w.heap.size + 4, 0, none⟩) 4096 4096, .iface 23 (.pointer (some ⟨w.heap.size + 2, 0, none⟩)), .int .i64 0, .int .i64 0, .nilIface, .int .i64 (-1), .int .i64 (-1)] : Array Value)[j]? := fun j => by
    rw [cell_old _ _ (by simp only [nblk_alloc]; omega), cell_old _ _ (by simp only [nblk_alloc]; omega), cell_new _ _ _ (by simp only [nblk_alloc]; omega)]
  have frr : ∀ j, ((((w2.alloc (.cells #[.slice (some ⟨w.heap.size, 0, none⟩) n n, .int .i64 0, .int .i64 0] 25)).alloc
      (.cells #[.slice (some ⟨w.heap.size + 4, 0, none⟩) 4096 4096, .iface 23 (.pointer (some ⟨w.heap.size + 2, 0, none⟩)), .int .i64 0, .int .i64 0, .nilIface, .int .i64 (-1), .int .i64 (-1)] 45)).alloc (.cells (madeCells #[.int .u8 0] 4096) 5)).alloc
      (.cells #[.pointer (some ⟨w.heap.size + 3, 0, none⟩), .nilIface, .bool false] 32)).frozen? ⟨w.heap.size + 3, j, none⟩ = false := fun j => by
    rw [frozen_old _ _ (by simp only [nblk_alloc]; omega), frozen_old _ _ (by simp only [nblk_alloc]; omega), frozen_new _ _ _ (by simp only [nblk_alloc]; omega)]
  have cl : ∀ j, ((((w2.alloc (.cells #[.slice (some ⟨w.heap.size, 0, none⟩) n n, .int .i64 0, .int .i64 0] 25)).alloc
      (.cells #[.slice (some ⟨w.heap.size + 4, 0, none⟩) 4096 4096, .iface 23 (.pointer (some ⟨w.heap.size + 2, 0, none⟩)), .int .i64 0, .int .i64 0, .nilIface, .int .i64 (-1), .int .i64 (-1)] 45)).alloc (.cells (madeCells #[.int .u8 0] 4096) 5)).alloc
      (.cells #[.pointer (some ⟨w.heap.size + 3, 0, none⟩), .nilIface, .bool false] 32)).cell? ⟨w.heap.size + 5, j, none⟩ = (#[.pointer (some ⟨w.heap.size + 3, 0, none⟩), .nilIface, .bool false] : Array Value)[j]? := fun j => by
    rw [cell_new _ _ _ (by simp only [nblk_alloc]; omega)]
  exact ⟨(((hS.alloc (by omega) _).alloc (by simp only [nblk_alloc]; omega) _).alloc (by simp only [nblk_alloc]; omega) _).alloc (by simp only [nblk_alloc]; omega) _, by simp only [nblk_alloc]; omega,
    (((hb.alloc _).alloc _).alloc _).alloc _, (((hk.alloc _).alloc _).alloc _).alloc _, by rw [cs]; rfl, by rw [cs]; rfl, by rw [cs]; rfl, fs, by rw [crr]; rfl, by rw [crr]; rfl, by rw [crr]; rfl, by rw [crr]; rfl, by rw [crr]; rfl, by rw [crr]; rfl, by rw [crr]; rfl, frr,
    hcr.alloc _, by rw [cl]; rfl, by rw [cl]; rfl, by rw [cl]; rfl⟩

theorem apart (N : Nat) : Ap (N + 2) N (N + 3) (N + 4) (N + 7) := ⟨by omega, by omega, by omega, by omega, by omega, by omega, by omega, by omega, by omega, by omega⟩

/-- Behind the two makes. -/
theorem st_start {w W : World} {n : Nat} {Z : Nat → Int} (h : Pre w W n Z) :
    St ((W.alloc (.cells (madeCells #[.int .u8 0] n) 5)).alloc (.cells (madeCells #[.int .u8 0] 7) 5)) (w.heap.size + 2) w.heap.size (w.heap.size + 3) (w.heap.size + 4) (w.heap.size + 7) n Z 0 0 0 0 .nilIface 0 0 (0 - 0) ∧
    ((W.alloc (.cells (madeCells #[.int .u8 0] n) 5)).alloc (.cells (madeCells #[.int .u8 0] 7) 5)).rowIs (w.heap.size + 6) 5 n (fun _ => .int .u8 0) ∧
    ((W.alloc (.cells (madeCells #[.int .u8 0] n) 5)).alloc (.cells (madeCells #[.int .u8 0] 7) 5)).rowIs (w.heap.size + 1) 5 n (fun j => .int .u8 (Z j)) ∧
    ((W.alloc (.cells (madeCells #[.int .u8 0] n) 5)).alloc (.cells (madeCells #[.int .u8 0] 7) 5)).cell? ⟨w.heap.size + 5, 0, none⟩ = some (.pointer (some ⟨w.heap.size + 3, 0, none⟩)) ∧
    w.Since w.heap.size ((W.alloc (.cells (madeCells #[.int .u8 0] n) 5)).alloc (.cells (madeCells #[.int .u8 0] 7) 5)) := by
  have hz := h.size
  have ho := World.rowIs_made W (.int .u8 0) n 5
  have hh := World.rowIs_made (W.alloc (.cells (madeCells #[.int .u8 0] n) 5)) (.int .u8 0) 7 5
  rw [hz] at ho
  rw [nblk_alloc, hz] at hh
  have oc : ∀ b i, b < w.heap.size + 6 → ((W.alloc (.cells (madeCells #[.int .u8 0] n) 5)).alloc (.cells (madeCells #[.int .u8 0] 7) 5)).cell? ⟨b, i, none⟩ = W.cell? ⟨b, i, none⟩ := fun b i hb => by
    rw [cell_old _ _ (by simp only [nblk_alloc]; omega), cell_old _ _ (by simp only; omega)]
  have of : ∀ b i, b < w.heap.size + 6 → ((W.alloc (.cells (madeCells #[.int .u8 0] n) 5)).alloc (.cells (madeCells #[.int .u8 0] 7) 5)).frozen? ⟨b, i, none⟩ = W.frozen? ⟨b, i, none⟩ := fun b i hb => by
    rw [frozen_old _ _ (by simp only [nblk_alloc]; omega), frozen_old _ _ (by simp only; omega)]
  refine ⟨⟨by rw [oc _ _ (by omega)]; exact h.s0, by rw [oc _ _ (by omega)]; exact h.s1, by rw [oc _ _ (by omega)]; exact h.s2, fun j => by rw [of _ _ (by omega)]; exact h.sf j, fun j hj => by rw [oc _ _ (by omega)]; exact h.bf.cell hj,
    by rw [oc _ _ (by omega)]; exact h.r0, by rw [oc _ _ (by omega)]; exact h.r1, by rw [oc _ _ (by omega)]; exact h.r2, by rw [oc _ _ (by omega)]; exact h.r3, by rw [oc _ _ (by omega)]; exact h.r4, ⟨_, by rw [oc _ _ (by omega)]; exact h.r5⟩, ⟨_, by rw [oc _ _ (by omega)]; exact h.r6⟩,
    fun j => by rw [of _ _ (by omega)]; exact h.rf j, ⟨_, (h.cr.alloc _).alloc _, fun j _ hj => absurd hj (Nat.not_lt_zero _)⟩, ⟨_, hh⟩⟩, ho.alloc _, (h.kp.alloc _).alloc _, by rw [oc _ _ (by omega)]; exact h.l0,
    (h.since.alloc (by omega) _).alloc (by simp only [nblk_alloc]; omega) _⟩

end Go.Proofs.YbulkdlooDoor.A
