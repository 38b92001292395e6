/-
  The walk of 'rows' (sharedholdouts.go:470).
-/
import Derived.Test.YbulkdlmkRows
import Derived.Test.YbulkdlmkLib
import Derived.Deep.LoopGhost
import Derived.Deep.Light
import Derived.Outline
namespace Go.Proofs.Ybulkdlmk.B
open Go Go.RowKit Go.Deep Go.Proofs.Ybulkdlmk.Lib

theorem info23 : (Yba.prog.info? 23).map (fun i => (i.zero, i.size, i.bytes)) = some (some (.float .f64 0), 1, 8) := by kernel_rfl
theorem info37 : (Yba.prog.info? 37).map (fun i => (i.zero, i.size, i.bytes)) = some (some (.slice none 0 0), 1, 24) := by kernel_rfl

/-- The rows of 'to', k of them made. -/
def toCell (N m k : Nat) : Nat → Value := fun i => if i < k then .slice (some ⟨N, i * m, none⟩) m m else .slice none 0 0
/-- The cells of the one array, the first t of them filled. -/
def cellAt (F : Nat → Nat → Nat) (m t : Nat) : Nat → Value := fun j => if j < t then .float .f64 (F (j / m) (j % m)) else .float .f64 0

structure Mid (w wr : World) (n m k : Nat) (F : Nat → Nat → Nat) : Prop where
  since : w.Since w.heap.size wr
  size : wr.heap.size = w.heap.size + 2
  cells : wr.rowIs w.heap.size 23 (n * m) (cellAt F m (k * m))
  to : wr.rowIs (w.heap.size + 1) 37 n (toCell w.heap.size m k)

theorem mid_start (w : World) (n m : Nat) (F : Nat → Nat → Nat) :
    Mid w ((w.alloc (.cells (madeCells #[.float .f64 0] (n * m)) 23)).alloc (.cells (madeCells #[.slice none 0 0] n) 37)) n m 0 F := by
  have h1 := World.rowIs_made w (.float .f64 0) (n * m) 23
  have h2 := World.rowIs_made (w.alloc (.cells (madeCells #[.float .f64 0] (n * m)) 23)) (.slice none 0 0) n 37
  rw [nblk_alloc] at h2
  refine ⟨((World.Since.refl _ _).alloc (Nat.le_refl _) _).alloc (by simp) _, by simp, (h1.alloc _).congr (fun j _ => by simp [cellAt]), h2.congr (fun j _ => by simp [toCell])⟩

theorem mid_step {w wr w1 : World} {n m k : Nat} {F : Nat → Nat → Nat} (h : Mid w wr n m k F)
    (h1 : w1.rowIs w.heap.size 23 (n * m) (fun j => if k * m ≤ j ∧ j < k * m + m then .float .f64 (F k (j - k * m)) else cellAt F m (k * m) j)) (hg : wr.grownBy w1 (some w.heap.size)) (hs : w1.heap.size = wr.heap.size)
    (a : Addr) (ha : a = ⟨w.heap.size, k * m, none⟩) :
    Mid w (w1.setCell ⟨w.heap.size + 1, k, none⟩ (.slice (some a) m m)) n m (k + 1) F := by
  have hto : w1.rowIs (w.heap.size + 1) 37 n (toCell w.heap.size m k) := h.to.of_block (hg.block _ (by have := h.to.lt; exact this) (by simp))
  refine ⟨(h.since.grown hg (by rw [h.size]; omega) (by intro k hk; simp at hk; omega)).setCell (by show w.heap.size ≤ w.heap.size + 1; omega) _, by rw [nblk_setCell, hs, h.size],
    (h1.setOther (by show w.heap.size ≠ w.heap.size + 1; omega) _).congr (fun j hj => ?_), (hto.set k _).congr (fun j hj => ?_)⟩
  · have e : (k + 1) * m = k * m + m := Nat.succ_mul k m
    simp only [cellAt, e]
    by_cases c1 : j < k * m
    · simp [c1, show ¬ k * m ≤ j by omega, show j < k * m + m by omega]
    · by_cases c2 : j < k * m + m
      · have hm0 : 0 < m := by omega
        have q : j / m = k := by
          rw [Nat.div_eq_iff hm0]
          constructor
          · omega
          · omega
        have q2 : j % m = j - k * m := by
          have := Nat.div_add_mod j m
          rw [q, Nat.mul_comm] at this
          omega
        simp [c2, show k * m ≤ j by omega, q, q2]
      · simp [c1, c2]
  · simp only [toCell]
    by_cases e : j = k
    · subst e; simp [ha]
    · rw [if_neg e]
      by_cases hlt : j < k
      · rw [if_pos hlt, if_pos (by omega)]
      · rw [if_neg hlt, if_neg (by omega)]

theorem mid_step' {w wr w1 : World} {n m k : Nat} {F : Nat → Nat → Nat} (h : Mid w wr n m k F)
    (h1 : w1.rowIs w.heap.size 23 (n * m) (fun j => if k * m ≤ j ∧ j < k * m + m then .float .f64 (F k (j - k * m)) else cellAt F m (k * m) j)) (hg : wr.grownBy w1 (some w.heap.size)) (hs : w1.heap.size = wr.heap.size)
    (a : Addr) (ha : a = ⟨w.heap.size, k * m, none⟩) {v : Value} (hv : v = .slice (some a) m m) :
    Mid w (w1.setCell ⟨w.heap.size + 1, k, none⟩ v) n m (k + 1) F := by rw [hv]; exact mid_step h h1 hg hs a ha

theorem to_block {w wr w1 : World} {n m k : Nat} {F : Nat → Nat → Nat} (h : Mid w wr n m k F) (hg : wr.grownBy w1 (some w.heap.size)) : w1.rowIs (w.heap.size + 1) 37 n (toCell w.heap.size m k) :=
  h.to.of_block (hg.block _ (by have := h.to.lt; exact this) (by simp))
theorem to_cell {w wr w1 : World} {n m k : Nat} {F : Nat → Nat → Nat} (h : Mid w wr n m k F) (hg : wr.grownBy w1 (some w.heap.size)) (hk : k < n) :
    w1.cell? ⟨w.heap.size + 1, k, none⟩ = some (.slice none 0 0) := by
  have := (to_block h hg).cell hk
  simpa [toCell] using this
theorem to_frozen {w wr w1 : World} {n m k : Nat} {F : Nat → Nat → Nat} (h : Mid w wr n m k F) (hg : wr.grownBy w1 (some w.heap.size)) (j : Nat) :
    w1.frozen? ⟨w.heap.size + 1, j, none⟩ = false := (to_block h hg).frozen j

set_option maxHeartbeats 800000 in
theorem rows_any (fb n m r : Nat) (RB : Nat → Nat) (F : Nat → Nat → Nat) (w : World) (hn : n ≤ 300) (hm : m ≤ 32) (hr : r ≤ n)
    (hfrom : ∀ i, i < r → w.cell? ⟨fb, i, none⟩ = some (.slice (some ⟨RB i, 0, none⟩) m m))
    (hrow : ∀ i, i < r → ∀ j, j < m → w.cell? ⟨RB i, j, none⟩ = some (.float .f64 (F i j))) :
    Calls Yba.prog 9 #[.int .i64 n, .int .i64 m, .slice (some ⟨fb, 0, none⟩) r r] w fun e w' => e = .returned (.slice (some ⟨w.heap.size + 1, 0, none⟩) n n) ∧ Mid w w' n m r F := by
  have hnm : n * m ≤ 9600 := Nat.le_trans (Nat.mul_le_mul hn hm) (by decide)
  have hmk0 := run_make0_row (P := Yba.prog) 37 23 (.float .f64 0) 8 Yba.underlying37 info23 rfl .i64 .i64 (n * m) (by omega) (by omega)
  have hmk1 := run_make_row' (P := Yba.prog) 38 37 (.slice none 0 0) 24 Yba.underlying38 info37 rfl .i64 .i64 n (by omega) (by omega)
  rw [Int.natCast_mul] at hmk0
  have hnmI : (n : Int) * (m : Int) ≤ 9600 := by rw [← Int.natCast_mul]; omega
  have hnmI0 : 0 ≤ (n : Int) * (m : Int) := by rw [← Int.natCast_mul]; omega
  go_enter Yba.func9, Yba.ntmps9
  go_wp2_with fail
  clear hmk0 hmk1
  go_loopg [7, 19] r (fun g s7 s19 wr => ∃ (k p : Nat), k ≤ r ∧ g = r - k ∧ s19 = .int .i64 k ∧ s7 = .slice (some ⟨w.heap.size, 0, none⟩) p (n * m) ∧ Hid (p = k * m) ∧ Mid w wr n m k F)
  case atStart => exact ⟨0, 0, Nat.zero_le _, rfl, rfl, rfl, by simp [Hid], mid_start w n m F⟩
  case round =>
    obtain ⟨k, p, hk, rfl, rfl, rfl, HP, hM⟩ := hrel
    by_cases hkr : k < r
    · have hkz : (k : Int) < (r : Int) := by omega
      have hfb : fb < w.heap.size := World.block_lt_of_cell? _ _ (hfrom k hkr)
      have g0 : wr.cell? ⟨fb, k, none⟩ = some (.slice (some ⟨RB k, 0, none⟩) m m) := by rw [hM.since.cell (a := ⟨fb, k, none⟩) hfb]; exact hfrom k hkr
      have g1 : ∀ j, j < m → wr.cell? ((⟨RB k, 0, none⟩ : Addr).add j) = some (.float .f64 (F k j)) := fun j hj => by
        rw [Addr.add_lit, Nat.zero_add, hM.since.cell (a := ⟨RB k, j, none⟩) (World.block_lt_of_cell? _ _ (hrow k hkr j hj))]
        exact hrow k hkr j hj
      obtain ⟨i0, hi, hz0, hz1, hz2⟩ := info_parts info23
      have hkm1 : p + m ≤ n * m := by rw [HP.out, ← Nat.succ_mul]; exact Nat.mul_le_mul_right m (by omega)
      have e1 : (k : Int) * (m : Int) = (p : Int) := by rw [HP.out, Int.natCast_mul]
      have e2 : ((k : Int) + 1) * (m : Int) = (p : Int) + (m : Int) := by rw [Int.add_mul, Int.one_mul, HP.out, Int.natCast_mul]
      have hcl : wr.rowIs w.heap.size 23 (n * m) (cellAt F m p) := by rw [HP.out]; exact hM.cells
      have hkn : k < n := by omega
      by_cases hq : p + m = p
      · go_wp2_with (at_builtin; refine wpList_append_row _ rfl (.tmp 24) (.tmp 25) 37 rfl 23 i0 Yba.underlying37 hi hz1 w.heap.size p (n * m) _ rfl hcl ⟨RB k, 0, none⟩ m m (fun j => .float .f64 (F k j)) rfl g1 (fun _ _ => rfl) hkm1 ?_; intro w1 hw1 hg1 hs1; have t1 := to_cell hM hg1 hkn; have t2 := to_frozen hM hg1 k)
        have hm0 : m = 0 := by omega
        have hstep := mid_step' hM (by rw [← HP.out]; exact hw1) hg1 hs1 ⟨w.heap.size, 0, none⟩ (by rw [hm0, Nat.mul_zero]) (v := .slice (some ⟨w.heap.size, 0, none⟩) 0 0) (by rw [hm0])
        go_roundg (r - (k + 1))
        case measure => go_light; omega
        case rel => go_light; exact ⟨k + 1, p + m, by omega, rfl, by go_num, by first | rfl | simp [hm0], by unfold Hid; rw [Nat.succ_mul, HP.out], hstep⟩
      · go_wp2_with (at_builtin; refine wpList_append_row _ rfl (.tmp 24) (.tmp 25) 37 rfl 23 i0 Yba.underlying37 hi hz1 w.heap.size p (n * m) _ rfl hcl ⟨RB k, 0, none⟩ m m (fun j => .float .f64 (F k j)) rfl g1 (fun _ _ => rfl) hkm1 ?_; intro w1 hw1 hg1 hs1; have t1 := to_cell hM hg1 hkn; have t2 := to_frozen hM hg1 k)
        have hstep := mid_step' hM (by rw [← HP.out]; exact hw1) hg1 hs1 ⟨w.heap.size, p, none⟩ (by rw [HP.out]) (v := .slice (some ⟨w.heap.size, p, none⟩) m m) rfl
        go_roundg (r - (k + 1))
        case measure => go_light; omega
        case rel => go_light; exact ⟨k + 1, p + m, by omega, rfl, by go_num, rfl, by unfold Hid; rw [Nat.succ_mul, HP.out], by first | exact hstep | simpa using hstep⟩
    · have hkz : ¬ ((k : Int) < (r : Int)) := by omega
      go_wp2
      go_ret
      obtain rfl : k = r := by omega
      exact ⟨rfl, hM⟩
end Go.Proofs.Ybulkdlmk.B
