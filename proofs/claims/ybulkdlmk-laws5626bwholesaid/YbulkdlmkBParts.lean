/-
  Law B: what holds at the loops' heads; what each step does to it. No walk.
-/
import Derived.Test.YbulkdlmkBRows
import Derived.Test.YbulkdlmkFloat
import Derived.Deep.Draws
namespace Go.Proofs.Ybulkdlmk.B
open Go Go.RowKit Go.Deep Go.Proofs.Ybulkdlmk.Lib Go.Proofs.Ybulkdlmk.Fl

/-- The t-th value that the law lays. -/
def val (D : Nat → Nat) (len t : Nat) : Nat := if 0 < len then D (t % len) else floatOfInt .f64 ((t : Nat) : Int)
def rowPtr (B : Nat → Nat) (m k : Nat) : Nat → Value := fun i => if i < k then .slice (some ⟨B i, 0, none⟩) m m else .slice none 0 0
def partRow (F : Nat → Nat → Nat) (k c : Nat) : Nat → Value := fun j => if j < c then .float .f64 (F k j) else .float .f64 0

/-- k rows and k copies are made and hung up. -/
structure Fill (w wr : World) (r m k : Nat) (F : Nat → Nat → Nat) : Prop where
  since : w.Since w.heap.size wr
  size : wr.heap.size = w.heap.size + 2 + 2 * k
  frm : wr.rowIs w.heap.size 37 r (rowPtr (fun i => w.heap.size + 2 + 2 * i) m k)
  keep : wr.rowIs (w.heap.size + 1) 37 r (rowPtr (fun i => w.heap.size + 2 + 2 * i + 1) m k)
  rows : ∀ i, i < k → wr.rowIs (w.heap.size + 2 + 2 * i) 23 m (fun j => .float .f64 (F i j))
  cps : ∀ i, i < k → wr.rowIs (w.heap.size + 2 + 2 * i + 1) 23 m (fun j => .float .f64 (F i j))

/-- .. row k and its copy are made, c cells of the copy and d of the row filled. -/
structure FillIn (w wr : World) (r m k c d : Nat) (F : Nat → Nat → Nat) : Prop where
  since : w.Since w.heap.size wr
  size : wr.heap.size = w.heap.size + 4 + 2 * k
  frm : wr.rowIs w.heap.size 37 r (rowPtr (fun i => w.heap.size + 2 + 2 * i) m k)
  keep : wr.rowIs (w.heap.size + 1) 37 r (rowPtr (fun i => w.heap.size + 2 + 2 * i + 1) m k)
  rows : ∀ i, i < k → wr.rowIs (w.heap.size + 2 + 2 * i) 23 m (fun j => .float .f64 (F i j))
  cps : ∀ i, i < k → wr.rowIs (w.heap.size + 2 + 2 * i + 1) 23 m (fun j => .float .f64 (F i j))
  cur : wr.rowIs (w.heap.size + 2 + 2 * k) 23 m (partRow F k d)
  cur2 : wr.rowIs (w.heap.size + 2 + 2 * k + 1) 23 m (partRow F k c)

theorem fill_start (w : World) (r m : Nat) (F : Nat → Nat → Nat) :
    Fill w ((w.alloc (.cells (madeCells #[.slice none 0 0] r) 37)).alloc (.cells (madeCells #[.slice none 0 0] r) 37)) r m 0 F := by
  have h1 := World.rowIs_made w (.slice none 0 0) r 37
  have h2 := World.rowIs_made (w.alloc (.cells (madeCells #[.slice none 0 0] r) 37)) (.slice none 0 0) r 37
  rw [nblk_alloc] at h2
  exact ⟨((World.Since.refl _ _).alloc (Nat.le_refl _) _).alloc (by simp) _, by simp, (h1.alloc _).congr (fun j _ => by simp [rowPtr]), h2.congr (fun j _ => by simp [rowPtr]),
    fun i hi => absurd hi (Nat.not_lt_zero _), fun i hi => absurd hi (Nat.not_lt_zero _)⟩

theorem in_start {w wr : World} {r m k : Nat} {F : Nat → Nat → Nat} (h : Fill w wr r m k F) :
    FillIn w ((wr.alloc (.cells (madeCells #[.float .f64 0] m) 23)).alloc (.cells (madeCells #[.float .f64 0] m) 23)) r m k 0 0 F := by
  have h1 := World.rowIs_made wr (.float .f64 0) m 23
  have h2 := World.rowIs_made (wr.alloc (.cells (madeCells #[.float .f64 0] m) 23)) (.float .f64 0) m 23
  rw [nblk_alloc, h.size] at h2
  rw [h.size] at h1
  exact ⟨(h.since.alloc (by rw [h.size]; omega) _).alloc (by rw [nblk_alloc, h.size]; omega) _, by rw [nblk_alloc, nblk_alloc, h.size]; omega, (h.frm.alloc _).alloc _, (h.keep.alloc _).alloc _,
    fun i hi => ((h.rows i hi).alloc _).alloc _, fun i hi => ((h.cps i hi).alloc _).alloc _, (h1.alloc _).congr (fun j _ => by simp [partRow]), h2.congr (fun j _ => by simp [partRow])⟩

theorem part_step {F : Nat → Nat → Nat} {k c j : Nat} : (if j = c then Value.float .f64 (F k c) else partRow F k c j) = partRow F k (c + 1) j := by
  unfold partRow
  by_cases e : j = c
  · subst e; simp
  · rw [if_neg e]
    by_cases hlt : j < c
    · rw [if_pos hlt, if_pos (by omega)]
    · rw [if_neg hlt, if_neg (by omega)]

theorem ptr_step {B : Nat → Nat} {m k j : Nat} : (if j = k then Value.slice (some ⟨B k, 0, none⟩) m m else rowPtr B m k j) = rowPtr B m (k + 1) j := by
  unfold rowPtr
  by_cases e : j = k
  · subst e; simp
  · rw [if_neg e]
    by_cases hlt : j < k
    · rw [if_pos hlt, if_pos (by omega)]
    · rw [if_neg hlt, if_neg (by omega)]

/-- 'row[j] = ..'. -/
theorem in_row {w wr : World} {r m k c : Nat} {F : Nat → Nat → Nat} (h : FillIn w wr r m k c c F) {b : Nat} (hb : b = F k c) :
    FillIn w (wr.setCell ⟨w.heap.size + 2 + 2 * k, c, none⟩ (.float .f64 b)) r m k c (c + 1) F := by
  subst hb
  exact ⟨h.since.setCell (by show w.heap.size ≤ w.heap.size + 2 + 2 * k; omega) _, by rw [nblk_setCell, h.size], h.frm.setOther (by show w.heap.size ≠ w.heap.size + 2 + 2 * k; omega) _,
    h.keep.setOther (by show w.heap.size + 1 ≠ w.heap.size + 2 + 2 * k; omega) _, fun i hi => (h.rows i hi).setOther (by show w.heap.size + 2 + 2 * i ≠ w.heap.size + 2 + 2 * k; omega) _,
    fun i hi => (h.cps i hi).setOther (by show w.heap.size + 2 + 2 * i + 1 ≠ w.heap.size + 2 + 2 * k; omega) _, (h.cur.set c _).congr (fun j _ => part_step), h.cur2.setOther (by show w.heap.size + 2 + 2 * k + 1 ≠ w.heap.size + 2 + 2 * k; omega) _⟩

/-- 'cp[j] = row[j]'. -/
theorem in_cp {w wr : World} {r m k c : Nat} {F : Nat → Nat → Nat} (h : FillIn w wr r m k c (c + 1) F) {b : Nat} (hb : b = F k c) :
    FillIn w (wr.setCell ⟨w.heap.size + 2 + 2 * k + 1, c, none⟩ (.float .f64 b)) r m k (c + 1) (c + 1) F := by
  subst hb
  exact ⟨h.since.setCell (by show w.heap.size ≤ w.heap.size + 2 + 2 * k + 1; omega) _, by rw [nblk_setCell, h.size], h.frm.setOther (by show w.heap.size ≠ w.heap.size + 2 + 2 * k + 1; omega) _,
    h.keep.setOther (by show w.heap.size + 1 ≠ w.heap.size + 2 + 2 * k + 1; omega) _, fun i hi => (h.rows i hi).setOther (by show w.heap.size + 2 + 2 * i ≠ w.heap.size + 2 + 2 * k + 1; omega) _,
    fun i hi => (h.cps i hi).setOther (by show w.heap.size + 2 + 2 * i + 1 ≠ w.heap.size + 2 + 2 * k + 1; omega) _, h.cur.setOther (by show w.heap.size + 2 + 2 * k ≠ w.heap.size + 2 + 2 * k + 1; omega) _, (h.cur2.set c _).congr (fun j _ => part_step)⟩

/-- 'from[k] = row; keep[k] = cp'. -/
theorem in_done {w wr : World} {r m k : Nat} {F : Nat → Nat → Nat} (h : FillIn w wr r m k m m F) :
    Fill w ((wr.setCell ⟨w.heap.size, k, none⟩ (.slice (some ⟨w.heap.size + 2 + 2 * k, 0, none⟩) m m)).setCell ⟨w.heap.size + 1, k, none⟩ (.slice (some ⟨w.heap.size + 2 + 2 * k + 1, 0, none⟩) m m)) r m (k + 1) F := by
  have o0 : ∀ {b t n f} (u v : Value), wr.rowIs b t n f → w.heap.size + 1 < b → ((wr.setCell ⟨w.heap.size, k, none⟩ u).setCell ⟨w.heap.size + 1, k, none⟩ v).rowIs b t n f := fun u v h hb =>
    (h.setOther (a := ⟨w.heap.size, k, none⟩) (by intro e; simp only at e; omega) _).setOther (by intro e; simp only at e; omega) _
  refine ⟨(h.since.setCell (Nat.le_refl _) _).setCell (by show w.heap.size ≤ w.heap.size + 1; omega) _, by rw [nblk_setCell, nblk_setCell, h.size]; omega,
    ((h.frm.set k _).setOther (by show w.heap.size ≠ w.heap.size + 1; omega) _).congr (fun j _ => ptr_step (B := fun i => w.heap.size + 2 + 2 * i)), ((h.keep.setOther (by show w.heap.size + 1 ≠ w.heap.size; omega) _).set k _).congr (fun j _ => ptr_step (B := fun i => w.heap.size + 2 + 2 * i + 1)), ?_, ?_⟩
  · intro i hi
    by_cases e : i = k
    · subst e
      exact o0 _ _ (h.cur.congr (fun j hj => by unfold partRow; rw [if_pos hj])) (by omega)
    · exact o0 _ _ (h.rows i (by omega)) (by omega)
  · intro i hi
    by_cases e : i = k
    · subst e
      exact o0 _ _ (h.cur2.congr (fun j hj => by unfold partRow; rw [if_pos hj])) (by omega)
    · exact o0 _ _ (h.cps i (by omega)) (by omega)

/-! ### Behind the call of 'rows' -/

theorem since_mono {B B' : Nat} {w w' : World} (h : w.Since B w') (hB : B' ≤ B) : w.Since B' w' := ⟨h.os, h.tape, h.output, h.size, fun k hk => h.block k (by omega)⟩

/-- The one array's cells, the first t written over. -/
def over (F : Nat → Nat → Nat) (m r t : Nat) : Nat → Value := fun j => if j < t then .float .f64 (halfUp j) else cellAt F m (r * m) j

structure Seen (w wx : World) (S n m r t : Nat) (F : Nat → Nat → Nat) : Prop where
  since : w.Since w.heap.size wx
  big : S = w.heap.size + 2 + 2 * r
  frm : wx.rowIs w.heap.size 37 r (rowPtr (fun i => w.heap.size + 2 + 2 * i) m r)
  keep : wx.rowIs (w.heap.size + 1) 37 r (rowPtr (fun i => w.heap.size + 2 + 2 * i + 1) m r)
  rows : ∀ i, i < r → wx.rowIs (w.heap.size + 2 + 2 * i) 23 m (fun j => .float .f64 (F i j))
  cps : ∀ i, i < r → wx.rowIs (w.heap.size + 2 + 2 * i + 1) 23 m (fun j => .float .f64 (F i j))
  cells : wx.rowIs S 23 (n * m) (over F m r t)
  to : wx.rowIs (S + 1) 37 n (toCell S m r)

theorem seen_start {w wr wx : World} {n m r : Nat} {F : Nat → Nat → Nat} (h : Fill w wr r m r F) (hM : Mid wr wx n m r F) : Seen w wx wr.heap.size n m r 0 F := by
  have hb : ∀ b, b < wr.heap.size → wx.heap[b]? = wr.heap[b]? := fun b hb => hM.since.block b hb
  refine ⟨h.since.trans (since_mono hM.since (by rw [h.size]; omega)), h.size, h.frm.of_block (hb _ h.frm.lt), h.keep.of_block (hb _ h.keep.lt), fun i hi => (h.rows i hi).of_block (hb _ (h.rows i hi).lt), fun i hi => (h.cps i hi).of_block (hb _ (h.cps i hi).lt),
    hM.cells.congr (fun j _ => by simp [over]), hM.to⟩

theorem seen_drew {w wx : World} {S n m r t : Nat} {F : Nat → Nat → Nat} (h : Seen w wx S n m r t F) (d : Nat) : Seen w (wx.drewN d) S n m r t F :=
  ⟨⟨h.since.os, h.since.tape, h.since.output, h.since.size, h.since.block⟩, h.big, h.frm, h.keep, h.rows, h.cps, h.cells, h.to⟩

theorem seen_store {w wx : World} {S n m r t : Nat} {F : Nat → Nat → Nat} (h : Seen w wx S n m r t F) : Seen w (wx.setCell ⟨S, t, none⟩ (.float .f64 (halfUp t))) S n m r (t + 1) F := by
  have hS := h.big
  refine ⟨h.since.setCell (by show w.heap.size ≤ S; omega) _, h.big, h.frm.setOther (by show w.heap.size ≠ S; omega) _, h.keep.setOther (by show w.heap.size + 1 ≠ S; omega) _,
    fun i hi => (h.rows i hi).setOther (by show w.heap.size + 2 + 2 * i ≠ S; omega) _, fun i hi => (h.cps i hi).setOther (by show w.heap.size + 2 + 2 * i + 1 ≠ S; omega) _,
    (h.cells.set t _).congr (fun j _ => ?_), h.to.setOther (by show S + 1 ≠ S; omega) _⟩
  unfold over
  by_cases e : j = t
  · subst e; simp
  · rw [if_neg e]
    by_cases hlt : j < t
    · rw [if_pos hlt, if_pos (by omega)]
    · rw [if_neg hlt, if_neg (by omega)]

theorem idx_lt {k r m c n : Nat} (hk : k < r) (hn : r ≤ n) (hc : c < m) : k * m + c < r * m ∧ k * m + c < n * m := by
  have h1 : (k + 1) * m ≤ r * m := Nat.mul_le_mul_right m hk
  have h2 : r * m ≤ n * m := Nat.mul_le_mul_right m hn
  rw [Nat.succ_mul] at h1
  omega

theorem idx_div {k m c : Nat} (hc : c < m) : (k * m + c) / m = k ∧ (k * m + c) % m = c := by
  have hm : 0 < m := by omega
  rw [Nat.mul_comm]
  exact ⟨by rw [Nat.mul_add_div hm, Nat.div_eq_of_lt hc]; rfl, by rw [Nat.mul_add_mod, Nat.mod_eq_of_lt hc]⟩

theorem seen_any {w wx : World} {S n m r t k c : Nat} {F : Nat → Nat → Nat} (h : Seen w wx S n m r t F) (hk : k < r) (hn : r ≤ n) (hc : c < m) (ht : t = k * m + c) : wx.cell? ⟨S, k * m + c, none⟩ = some (.float .f64 (F k c)) := by
  obtain ⟨i1, i2⟩ := idx_lt hk hn hc
  obtain ⟨d1, d2⟩ := idx_div (k := k) hc
  rw [h.cells.cell i2]
  simp [over, cellAt, i1, d1, d2, ht]

theorem seen_half {w wx : World} {S n m r k c : Nat} {F : Nat → Nat → Nat} (h : Seen w wx S n m r (r * m) F) (hk : k < r) (hn : r ≤ n) (hc : c < m) : wx.cell? ⟨S, k * m + c, none⟩ = some (.float .f64 (halfUp (k * m + c))) := by
  obtain ⟨i1, i2⟩ := idx_lt hk hn hc
  rw [h.cells.cell i2]
  simp [over, i1]

theorem half_run {P : Program} (q c : Nat) (w : World) : (binOp .add 23 (.float .f64 (floatOfInt .f64 ((q : Int) + (c : Int)))) (.float .f64 4602678819172646912)).run P w = .ok (.float .f64 (halfUp (q + c))) w := by
  have := half_add (q + c)
  rw [Int.natCast_add] at this
  exact run_float_arith w .add 23 .f64 _ _ _ this

theorem below_of_since {w w' : World} (h : w.Since w.heap.size w') : Below w.heap.size w w' := ⟨h.os, h.tape, h.output, h.size, h.block⟩

/-- What 'to[k][c]' holds before it is written over. -/
theorem seen_cell {w wx : World} {S n m r k c : Nat} {F : Nat → Nat → Nat} (h : Seen w wx S n m r 0 F) (hk : k < r) (hn : r ≤ n) (hc : c < m) : wx.cell? ⟨S, k * m + c, none⟩ = some (.float .f64 (F k c)) := by
  obtain ⟨i1, i2⟩ := idx_lt hk hn hc
  obtain ⟨d1, d2⟩ := idx_div (k := k) hc
  rw [h.cells.cell i2]
  simp [over, cellAt, i1, d1, d2]
end Go.Proofs.Ybulkdlmk.B
