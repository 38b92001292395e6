/-
  What the walks over 'Sum' carry of the world: two cells that turn. No walk.
-/
import Derived.WalkKit
import Derived.Deep.OwnRows
import Derived.Deep.Draws
namespace Go.Proofs.Ybulkdloo.C
open Go Go.RowKit Go.Deep

/-- Of w nothing has turned but blocks cc and sb: cc's first cell holds a, sb's holds b, and may be written. -/
structure Two (w wx : World) (cc sb : Nat) (a b : Value) : Prop where
  os : wx.os = w.os
  tape : wx.tape = w.tape
  output : wx.output = w.output
  size : wx.heap.size = w.heap.size
  block : ∀ k, k ≠ cc → k ≠ sb → wx.heap[k]? = w.heap[k]?
  c1 : wx.cell? ⟨cc, 0, none⟩ = some a
  f1 : wx.frozen? ⟨cc, 0, none⟩ = false
  c2 : wx.cell? ⟨sb, 0, none⟩ = some b
  f2 : wx.frozen? ⟨sb, 0, none⟩ = false

theorem Two.start {w : World} {cc sb : Nat} {a b : Value} (h1 : w.cell? ⟨cc, 0, none⟩ = some a) (h2 : w.frozen? ⟨cc, 0, none⟩ = false) (h3 : w.cell? ⟨sb, 0, none⟩ = some b) (h4 : w.frozen? ⟨sb, 0, none⟩ = false) : Two w w cc sb a b :=
  ⟨rfl, rfl, rfl, rfl, fun _ _ _ => rfl, h1, h2, h3, h4⟩

theorem Two.drewN {w wx : World} {cc sb : Nat} {a b : Value} (h : Two w wx cc sb a b) (d : Nat) : Two w (wx.drewN d) cc sb a b :=
  ⟨h.os, h.tape, h.output, h.size, h.block, h.c1, h.f1, h.c2, h.f2⟩

theorem frozen_setCell (w : World) (a p : Addr) (v : Value) : (w.setCell a v).frozen? p = w.frozen? p := by
  simp

theorem Two.set1 {w wx : World} {cc sb : Nat} {a b : Value} (h : Two w wx cc sb a b) (hne : cc ≠ sb) (a' : Value) : Two w (wx.setCell ⟨cc, 0, none⟩ a') cc sb a' b :=
  ⟨h.os, h.tape, h.output, by rw [nblk_setCell, h.size], fun k h1 h2 => by rw [blk_setCell_other _ _ _ _ h1]; exact h.block k h1 h2,
    World.cell?_setCell_same _ _ _ h.c1, by rw [frozen_setCell]; exact h.f1, by rw [World.cell?_setCell_other _ _ _ _ (fun e => by have := congrArg Addr.block e; simp at this; omega)]; exact h.c2, by rw [frozen_setCell]; exact h.f2⟩

theorem Two.set2 {w wx : World} {cc sb : Nat} {a b : Value} (h : Two w wx cc sb a b) (hne : cc ≠ sb) (b' : Value) : Two w (wx.setCell ⟨sb, 0, none⟩ b') cc sb a b' :=
  ⟨h.os, h.tape, h.output, by rw [nblk_setCell, h.size], fun k h1 h2 => by rw [blk_setCell_other _ _ _ _ h2]; exact h.block k h1 h2,
    by rw [World.cell?_setCell_other _ _ _ _ (fun e => by have := congrArg Addr.block e; simp at this; omega)]; exact h.c1, by rw [frozen_setCell]; exact h.f1, World.cell?_setCell_same _ _ _ h.c2, by rw [frozen_setCell]; exact h.f2⟩

theorem Two.cell {w wx : World} {cc sb : Nat} {a b : Value} (h : Two w wx cc sb a b) {p : Addr} (h1 : p.block ≠ cc) (h2 : p.block ≠ sb) : wx.cell? p = w.cell? p := World.cell?_of_block (w := w) (h.block p.block h1 h2)
theorem Two.frozen {w wx : World} {cc sb : Nat} {a b : Value} (h : Two w wx cc sb a b) {p : Addr} (h1 : p.block ≠ cc) (h2 : p.block ≠ sb) : wx.frozen? p = w.frozen? p := World.frozen?_of_block (w := w) (h.block p.block h1 h2)

theorem Two.below {w0 w wx : World} {B cc sb : Nat} {a b : Value} (h : Two w wx cc sb a b) (hb : Below B w0 w) (h1 : B ≤ cc) (h2 : B ≤ sb) : Below B w0 wx :=
  hb.trans ⟨h.os, h.tape, h.output, by rw [h.size]; exact Nat.le_refl _, fun k hk => h.block k (by omega) (by omega)⟩

theorem cell_new (w : World) (v : Value) (t : TypeId) {n : Nat} (h : n = w.heap.size) : (w.alloc (.cells #[v] t)).cell? ⟨n, 0, none⟩ = some v := by
  subst h
  unfold World.cell?
  simp only
  rw [blk_alloc_new]
  rfl
theorem frozen_new (w : World) (v : Value) (t : TypeId) {n : Nat} (h : n = w.heap.size) : (w.alloc (.cells #[v] t)).frozen? ⟨n, 0, none⟩ = false := by
  subst h
  unfold World.frozen?
  simp only
  rw [blk_alloc_new]
  rfl
theorem cell_old (w : World) (o : Obj) {p : Addr} (h : p.block < w.heap.size) : (w.alloc o).cell? p = w.cell? p := World.cell?_alloc_old _ _ _ (by omega)
theorem frozen_old (w : World) (o : Obj) {p : Addr} (h : p.block < w.heap.size) : (w.alloc o).frozen? p = w.frozen? p := World.frozen?_alloc_old _ _ _ (by omega)

/-- Five new cells: two counters and three boxes. -/
structure Five (wr W : World) (M : Nat) (v0 v1 v2 v3 v4 : Value) : Prop where
  size : W.heap.size = M + 5
  c0 : W.cell? ⟨M, 0, none⟩ = some v0
  f0 : W.frozen? ⟨M, 0, none⟩ = false
  c1 : W.cell? ⟨M + 1, 0, none⟩ = some v1
  f1 : W.frozen? ⟨M + 1, 0, none⟩ = false
  c2 : W.cell? ⟨M + 2, 0, none⟩ = some v2
  c3 : W.cell? ⟨M + 3, 0, none⟩ = some v3
  c4 : W.cell? ⟨M + 4, 0, none⟩ = some v4
  old : ∀ p : Addr, p.block < M → W.cell? p = wr.cell? p
  below : ∀ (B : Nat) (w : World), Below B w wr → B ≤ M → Below B w W

theorem five (wr : World) (M : Nat) (hM : wr.heap.size = M) (v0 v1 v2 v3 v4 : Value) (t0 t1 t2 t3 t4 : TypeId) :
    Five wr (((((wr.alloc (.cells #[v0] t0)).alloc (.cells #[v1] t1)).alloc (.cells #[v2] t2)).alloc (.cells #[v3] t3)).alloc (.cells #[v4] t4)) M v0 v1 v2 v3 v4 := by
  subst hM
  refine ⟨by simp, ?_, ?_, ?_, ?_, ?_, ?_, ?_, fun p hp => ?_, fun B w h hB => ?_⟩
  · rw [cell_old _ _ (by simp <;> omega), cell_old _ _ (by simp <;> omega), cell_old _ _ (by simp <;> omega), cell_old _ _ (by simp <;> omega)]; exact cell_new _ _ _ rfl
  · rw [frozen_old _ _ (by simp <;> omega), frozen_old _ _ (by simp <;> omega), frozen_old _ _ (by simp <;> omega), frozen_old _ _ (by simp <;> omega)]; exact frozen_new _ _ _ rfl
  · rw [cell_old _ _ (by simp <;> omega), cell_old _ _ (by simp <;> omega), cell_old _ _ (by simp <;> omega)]; exact cell_new _ _ _ (by simp)
  · rw [frozen_old _ _ (by simp <;> omega), frozen_old _ _ (by simp <;> omega), frozen_old _ _ (by simp <;> omega)]; exact frozen_new _ _ _ (by simp)
  · rw [cell_old _ _ (by simp <;> omega), cell_old _ _ (by simp <;> omega)]; exact cell_new _ _ _ (by simp)
  · rw [cell_old _ _ (by simp <;> omega)]; exact cell_new _ _ _ (by simp)
  · exact cell_new _ _ _ (by simp)
  · rw [World.cell?_alloc_old _ _ _ (by simp; omega), World.cell?_alloc_old _ _ _ (by simp; omega), World.cell?_alloc_old _ _ _ (by simp; omega), World.cell?_alloc_old _ _ _ (by simp; omega), World.cell?_alloc_old _ _ _ (by omega)]
  · exact ((((h.alloc hB _).alloc (by simp; omega) _).alloc (by simp; omega) _).alloc (by simp; omega) _).alloc (by simp; omega) _

end Go.Proofs.Ybulkdloo.C
