/-
  Laws B: the walk by definition, in Int, and where it ends; a slice in a cell that a callback lets grow. No walk.
-/
import Derived.WalkKit
import Derived.Deep.OwnRows
import Derived.Deep.Draws
namespace Go.Proofs.Ybulkdloo.BP
open Go Go.RowKit Go.Deep

def V (start : Int) (D : Nat → Int) (L : Nat) : Nat → Int
  | 0 => start
  | k + 1 => V start D L k + D (k % L)

def Fine (n lo hi : Int) (U : Nat → Int) (i : Nat) : Prop := i < 600 ∧ (n < 0 ∨ (i : Int) < n) ∧ lo ≤ U i ∧ U i ≤ hi
def Upto (n lo hi : Int) (U : Nat → Int) (K : Nat) : Prop := ∀ i, i < K → Fine n lo hi U i
def EndsAt (n lo hi : Int) (U : Nat → Int) (K : Nat) : Prop := Upto n lo hi U K ∧ ¬ Fine n lo hi U K

theorem ends_one {n lo hi : Int} {U : Nat → Int} {K K' : Nat} (h : EndsAt n lo hi U K) (h' : EndsAt n lo hi U K') : K = K' := by
  rcases Nat.lt_trichotomy K K' with c | c | c
  · exact absurd (h'.1 K c) h.2
  · exact c
  · exact absurd (h.1 K' c) h'.2

theorem upto_zero {n lo hi : Int} {U : Nat → Int} : Upto n lo hi U 0 := fun _ hi => absurd hi (Nat.not_lt_zero _)

theorem upto_succ {n lo hi : Int} {U : Nat → Int} {K : Nat} (h : Upto n lo hi U K) (k : Fine n lo hi U K) : Upto n lo hi U (K + 1) := fun i hi => by
  by_cases e : i = K
  · subst e; exact k
  · exact h i (by omega)

/-- A run of steps none of which is greater than m moves by no more than t times m. -/
theorem run_in {start : Int} {D : Nat → Int} {L m k : Nat} (hL : 0 < L) (hD : ∀ i, i < L → -(m : Int) ≤ D i ∧ D i ≤ m) : ∀ t : Nat,
    V start D L k - (t : Int) * m ≤ V start D L (k + t) ∧ V start D L (k + t) ≤ V start D L k + (t : Int) * m
  | 0 => by simp
  | t + 1 => by
    have h := run_in (start := start) (k := k) hL hD t
    have hd := hD ((k + t) % L) (Nat.mod_lt _ hL)
    have e : ((t + 1 : Nat) : Int) * m = (t : Int) * m + m := by rw [Int.natCast_add, Int.add_mul]; omega
    rw [e]
    show _ ≤ V start D L (k + t) + D ((k + t) % L) ∧ V start D L (k + t) + D ((k + t) % L) ≤ _
    omega

theorem safe_run {start : Int} {D : Nat → Int} {L C : Nat} {A B lo hi : Int} (hL : 0 < L)
    (hbd : ∀ v : Int, lo ≤ v → v ≤ hi → ∃ m q : Nat, C * m = q ∧ (∀ i, i < L → -(m : Int) ≤ D i ∧ D i ≤ m) ∧ A + (q : Int) ≤ v ∧ v + q ≤ B)
    (k : Nat) (h1 : lo ≤ V start D L k) (h2 : V start D L k ≤ hi) (t : Nat) (ht : t ≤ C) : A ≤ V start D L (k + t) ∧ V start D L (k + t) ≤ B := by
  obtain ⟨m, q, hq, hD, h3, h4⟩ := hbd _ h1 h2
  have h5 := run_in (start := start) (k := k) hL hD t
  have h6 : t * m ≤ q := by rw [← hq]; exact Nat.mul_le_mul_right m ht
  have h7 : (t : Int) * m ≤ (q : Int) := by rw [← Int.natCast_mul]; exact Int.ofNat_le.2 h6
  omega

/-- Where the walk stands at the head of its loop: it goes on from v, the k-th number; or it has ended. -/
def Stands (n A B : Int) (U : Nat → Int) (L k j : Nat) (v left : Int) : Prop :=
  (U k = v ∧ A ≤ v ∧ v ≤ B ∧ Upto n A B U k ∧ j % L = k % L ∧ ((n < 0 ∧ left = n) ∨ (0 ≤ n ∧ left = n - k ∧ 0 ≤ left))) ∨ (left = 0 ∧ EndsAt n A B U k)

theorem Stands.ended {n A B : Int} {U : Nat → Int} {L k j : Nat} {v left : Int} (h : Stands n A B U L k j v left) (h0 : left = 0) : EndsAt n A B U k := by
  rcases h with ⟨_, _, _, hU, _, hn⟩ | ⟨_, h⟩
  · refine ⟨hU, fun hf => ?_⟩
    have := hf.2.1
    omega
  · exact h

theorem Stands.live {n A B : Int} {U : Nat → Int} {L k j : Nat} {v left : Int} (h : Stands n A B U L k j v left) (h0 : left ≠ 0) :
    U k = v ∧ A ≤ v ∧ v ≤ B ∧ Upto n A B U k ∧ j % L = k % L ∧ ((n < 0 ∧ left = n) ∨ (0 ≤ n ∧ left = n - k ∧ 0 ≤ left)) := by
  rcases h with h | ⟨h, _⟩
  · exact h
  · exact absurd h h0

/-- The list that n numbers make. -/
def row (k : IntKind) (U : Nat → Int) (n : Nat) : List Value := (List.range n).map fun i => .int k (U i)
theorem row_length (k : IntKind) (U : Nat → Int) (n : Nat) : (row k U n).length = n := by simp [row]
theorem row_succ (k : IntKind) (U : Nat → Int) (n : Nat) : row k U n ++ [.int k (U n)] = row k U (n + 1) := by simp [row, List.range_succ]
theorem row_at (k : IntKind) (U : Nat → Int) {n j : Nat} (h : j < n) : (row k U n)[j]? = some (.int k (U j)) := by simp [row, h]

theorem owns_slice {w : World} {base : Nat} {e : TypeId} {v : Value} {n : Nat} {xs : List Value} (h : w.ownsRow base e 1 v n xs) : ∃ a cap, v = .slice a n cap := by
  rcases h.2 with ⟨h0, h1⟩ | ⟨g, cap, _, h0, _⟩
  · exact ⟨none, 0, by rw [h0, h1]⟩
  · exact ⟨_, cap, h0⟩

/-- What an owned row holds, cell by cell. -/
theorem owned_cells {w : World} {base : Nat} {e : TypeId} {a : Option Addr} {n cap : Nat} {xs : List Value} (h : w.ownsRow base e 1 (.slice a n cap) n xs) {j : Nat} (hj : j < n) :
    ∃ g, a = some ⟨g, 0, none⟩ ∧ base ≤ g ∧ g < w.heap.size ∧ n ≤ cap ∧ ∀ j u, xs[j]? = some u → w.cell? ⟨g, j, none⟩ = some u := by
  have hlt := h.lt
  rcases h.2 with ⟨h0, hn⟩ | ⟨g, cap', cur, h0, h1, h2, h3, h4, h5, h6⟩
  · omega
  · simp only [Value.slice.injEq] at h0
    obtain ⟨rfl, _, rfl⟩ := h0
    refine ⟨g, rfl, h1, (hlt g rfl).2, h3, fun j u hj => ?_⟩
    have := h.cells (g := g) rfl j u hj
    rwa [Addr.add_lit, Nat.zero_add] at this

/-- Since w nothing has turned but cell gc, which holds an owned row of the values xs, and what is new. -/
structure Got (w wx : World) (gc : Nat) (e : TypeId) (xs : List Value) : Prop where
  os : wx.os = w.os
  tape : wx.tape = w.tape
  output : wx.output = w.output
  size : w.heap.size ≤ wx.heap.size
  block : ∀ k, k < w.heap.size → k ≠ gc → wx.heap[k]? = w.heap[k]?
  frz : wx.frozen? ⟨gc, 0, none⟩ = false
  lt : gc < w.heap.size
  own : ∃ v, wx.cell? ⟨gc, 0, none⟩ = some v ∧ wx.ownsRow w.heap.size e 1 v xs.length xs

theorem Got.start {w : World} {gc : Nat} {e : TypeId} (h1 : w.cell? ⟨gc, 0, none⟩ = some (.slice none 0 0)) (h2 : w.frozen? ⟨gc, 0, none⟩ = false) : Got w w gc e [] :=
  ⟨rfl, rfl, rfl, Nat.le_refl _, fun _ _ _ => rfl, h2, World.block_lt_of_cell? _ _ h1, _, h1, World.ownsRow_nil _ _ _ _⟩

theorem Got.cell {w wx : World} {gc : Nat} {e : TypeId} {xs : List Value} (h : Got w wx gc e xs) {p : Addr} {v : Value} (hp : w.cell? p = some v) (hne : p.block ≠ gc) : wx.cell? p = some v := by
  rw [World.cell?_of_block (w := w) (h.block p.block (World.block_lt_of_cell? _ _ hp) hne)]; exact hp

theorem Got.below {w0 w wx : World} {B gc : Nat} {e : TypeId} {xs : List Value} (h : Got w wx gc e xs) (hb : Below B w0 w) (h1 : B ≤ gc) (h2 : B ≤ w.heap.size) : Below B w0 wx :=
  hb.trans ⟨h.os, h.tape, h.output, h.size, fun k hk => h.block k (by omega) (by omega)⟩

theorem Got.drewN {w wx : World} {gc : Nat} {e : TypeId} {xs : List Value} (h : Got w wx gc e xs) (d : Nat) : Got w (wx.drewN d) gc e xs :=
  ⟨h.os, h.tape, h.output, h.size, h.block, h.frz, h.lt, h.own⟩

/-- The cell takes the slice that append gave. -/
theorem Got.push {w wx w1 : World} {gc : Nat} {e : TypeId} {xs ys : List Value} {v v' : Value} {o : Obj} (h : Got w wx gc e xs) (hv : wx.ownsRow w.heap.size e 1 v xs.length xs)
    (ho : w1.ownsRow w.heap.size e 1 v' ys.length ys) (hg : (wx.alloc o).grownBy w1 v.ownBlock) : Got w (w1.setCell ⟨gc, 0, none⟩ v') gc e ys ∧ (∀ u, wx.cell? ⟨gc, 0, none⟩ = some u → w1.cell? ⟨gc, 0, none⟩ = some u) ∧ w1.frozen? ⟨gc, 0, none⟩ = false := by
  have hlt := h.lt
  have hsz := h.size
  have hne : some gc ≠ v.ownBlock := fun e => by
    have := (hv.lt gc e.symm).1
    omega
  have hblk : w1.heap[gc]? = wx.heap[gc]? := by
    rw [hg.block gc (by simp; omega) hne, blk_alloc_lt _ _ _ (by omega)]
  have hc : ∀ u, wx.cell? ⟨gc, 0, none⟩ = some u → w1.cell? ⟨gc, 0, none⟩ = some u := fun u hu => by rw [World.cell?_of_block (w := wx) (a := ⟨gc, 0, none⟩) hblk]; exact hu
  have hf : w1.frozen? ⟨gc, 0, none⟩ = false := by rw [World.frozen?_of_block (w := wx) (a := ⟨gc, 0, none⟩) hblk]; exact h.frz
  obtain ⟨u, hu, _⟩ := h.own
  have hset : w1.grownBy (w1.setCell ⟨gc, 0, none⟩ v') (some gc) := ⟨rfl, rfl, rfl, by rw [nblk_setCell]; exact Nat.le_refl _, fun k _ hk => blk_setCell_other _ _ _ _ (by intro e; exact hk (by rw [e]))⟩
  refine ⟨⟨hg.os.trans h.os, hg.tape.trans h.tape, hg.output.trans h.output, ?_, fun k hk hkg => ?_, ?_, hlt, v', World.cell?_setCell_same _ _ _ (hc u hu), ho.kept hset ?_⟩, hc, hf⟩
  · rw [nblk_setCell]; have := hg.size; simp at this; omega
  · rw [blk_setCell_other _ _ _ _ hkg, hg.block k (by simp; omega) (fun e => by have := (hv.lt k e.symm).1; omega), blk_alloc_lt _ _ _ (by omega)]
    exact h.block k hk hkg
  · simpa using hf
  · cases hb : v'.ownBlock with
    | none => exact .inl rfl
    | some b => exact .inr (fun e => by have h1 := (ho.lt b hb).1; simp only [Option.some.injEq] at e; omega)

end Go.Proofs.Ybulkdloo.BP
