/-
  What the walk over bufio's Reader carries of the world. No walk.
-/
import Derived.Test.YbulkdlooDoorLib
namespace Go.Proofs.YbulkdlooDoor.A
open Go Go.RowKit Go.Deep Go.Proofs.YbulkdlooDoor.Lib

/-- The blocks: sb the source's struct, bb its bytes, rb the Reader, cb its buffer, hb the chunk. off bytes have been read off the source, in c calls; the Reader holds r, v and the error er; the buffer's cells lo .. hi are the source's from base on. -/
structure St (w : World) (sb bb rb cb hb n : Nat) (Z : Nat → Int) (off c r v : Nat) (er : Value) (lo hi base : Nat) : Prop where
  s0 : w.cell? ⟨sb, 0, none⟩ = some (.slice (some ⟨bb, 0, none⟩) n n)
  s1 : w.cell? ⟨sb, 1, none⟩ = some (.int .i64 off)
  s2 : w.cell? ⟨sb, 2, none⟩ = some (.int .i64 c)
  sf : ∀ j, w.frozen? ⟨sb, j, none⟩ = false
  b0 : ∀ j, j < n → w.cell? ⟨bb, j, none⟩ = some (.int .u8 (Z j))
  r0 : w.cell? ⟨rb, 0, none⟩ = some (.slice (some ⟨cb, 0, none⟩) 4096 4096)
  r1 : w.cell? ⟨rb, 1, none⟩ = some (.iface 23 (.pointer (some ⟨sb, 0, none⟩)))
  r2 : w.cell? ⟨rb, 2, none⟩ = some (.int .i64 r)
  r3 : w.cell? ⟨rb, 3, none⟩ = some (.int .i64 v)
  r4 : w.cell? ⟨rb, 4, none⟩ = some er
  r5 : ∃ x, w.cell? ⟨rb, 5, none⟩ = some (.int .i64 x)
  r6 : ∃ x, w.cell? ⟨rb, 6, none⟩ = some (.int .i64 x)
  rf : ∀ j, w.frozen? ⟨rb, j, none⟩ = false
  cr : ∃ G, w.rowIs cb 5 4096 G ∧ ∀ j, lo ≤ j → j < hi → G j = .int .u8 (Z (base + j))
  hr : ∃ H, w.rowIs hb 5 7 H

/-- How the numbers stand to one another: o bytes have been handed on. -/
structure Num (n o off c r v : Nat) : Prop where
  rv : r ≤ v
  v4 : v ≤ 4096
  vo : v ≤ off
  on : off ≤ n
  oo : off = o + (v - r)
  cc : c ≤ off

/-- The five blocks are five. -/
structure Ap (sb bb rb cb hb : Nat) : Prop where
  a1 : sb ≠ bb
  a2 : sb ≠ rb
  a3 : sb ≠ cb
  a4 : sb ≠ hb
  a5 : bb ≠ rb
  a6 : bb ≠ cb
  a7 : bb ≠ hb
  a8 : rb ≠ cb
  a9 : rb ≠ hb
  a10 : cb ≠ hb

/-- Nothing has turned but those four. -/
structure Kept (w w' : World) (sb rb cb hb : Nat) : Prop where
  os : w'.os = w.os
  tape : w'.tape = w.tape
  output : w'.output = w.output
  size : w'.heap.size = w.heap.size
  block : ∀ k, k ≠ sb → k ≠ rb → k ≠ cb → k ≠ hb → w'.heap[k]? = w.heap[k]?

theorem Kept.refl (w : World) (sb rb cb hb : Nat) : Kept w w sb rb cb hb := ⟨rfl, rfl, rfl, rfl, fun _ _ _ _ _ => rfl⟩
theorem Kept.trans {a b c : World} {sb rb cb hb : Nat} (h : Kept a b sb rb cb hb) (k : Kept b c sb rb cb hb) : Kept a c sb rb cb hb :=
  ⟨k.os.trans h.os, k.tape.trans h.tape, k.output.trans h.output, k.size.trans h.size, fun i h1 h2 h3 h4 => (k.block i h1 h2 h3 h4).trans (h.block i h1 h2 h3 h4)⟩
theorem Kept.drewN {a b : World} {sb rb cb hb : Nat} (h : Kept a b sb rb cb hb) (d : Nat) : Kept a (b.drewN d) sb rb cb hb := ⟨h.os, h.tape, h.output, h.size, h.block⟩
theorem Kept.set {a b : World} {sb rb cb hb : Nat} (h : Kept a b sb rb cb hb) {p : Addr} (hp : p.block = sb ∨ p.block = rb ∨ p.block = cb ∨ p.block = hb) (v : Value) : Kept a (b.setCell p v) sb rb cb hb :=
  ⟨h.os, h.tape, h.output, by rw [nblk_setCell, h.size], fun k h1 h2 h3 h4 => by
    rw [blk_setCell_other _ _ _ _ (by rcases hp with e | e | e | e <;> rw [e] <;> assumption)]; exact h.block k h1 h2 h3 h4⟩
theorem Kept.grown {a b c : World} {sb rb cb hb g : Nat} (h : Kept a b sb rb cb hb) (hg : b.grownBy c (some g)) (hs : c.heap.size = b.heap.size) (hp : g = sb ∨ g = rb ∨ g = cb ∨ g = hb) : Kept a c sb rb cb hb :=
  ⟨hg.os.trans h.os, hg.tape.trans h.tape, hg.output.trans h.output, hs.trans h.size, fun k h1 h2 h3 h4 => by
    by_cases hk : k < b.heap.size
    · rw [hg.block k hk (fun e => by have := Option.some.inj e; rcases hp with e' | e' | e' | e' <;> omega)]; exact h.block k h1 h2 h3 h4
    · have e1 : c.heap[k]? = none := by rw [Array.getElem?_eq_none_iff]; omega
      have e2 : a.heap[k]? = none := by rw [Array.getElem?_eq_none_iff]; have := h.size; omega
      rw [e1, e2]⟩
theorem Kept.cell {a b : World} {sb rb cb hb : Nat} (h : Kept a b sb rb cb hb) {p : Addr} (h1 : p.block ≠ sb) (h2 : p.block ≠ rb) (h3 : p.block ≠ cb) (h4 : p.block ≠ hb) : b.cell? p = a.cell? p := World.cell?_of_block (w := a) (h.block p.block h1 h2 h3 h4)
theorem Kept.row {a b : World} {sb rb cb hb : Nat} (h : Kept a b sb rb cb hb) {k : Nat} {t : TypeId} {n : Nat} {f : Nat → Value} (h1 : k ≠ sb) (h2 : k ≠ rb) (h3 : k ≠ cb) (h4 : k ≠ hb) (hr : a.rowIs k t n f) : b.rowIs k t n f := hr.of_block (h.block k h1 h2 h3 h4)

theorem ne_addr {b b' o o' : Nat} (h : b ≠ b' ∨ o ≠ o') : (⟨b', o', none⟩ : Addr) ≠ ⟨b, o, none⟩ := fun e => by
  have h1 := congrArg Addr.block e
  have h2 := congrArg Addr.off e
  simp only at h1 h2
  omega

section
variable {w : World} {sb bb rb cb hb n : Nat} {Z : Nat → Int} {off c r v : Nat} {er : Value} {lo hi base : Nat}

theorem St.drewN (h : St w sb bb rb cb hb n Z off c r v er lo hi base) (d : Nat) : St (w.drewN d) sb bb rb cb hb n Z off c r v er lo hi base :=
  ⟨h.s0, h.s1, h.s2, h.sf, h.b0, h.r0, h.r1, h.r2, h.r3, h.r4, h.r5, h.r6, h.rf, h.cr, h.hr⟩
theorem St.narrow (h : St w sb bb rb cb hb n Z off c r v er lo hi base) {lo' hi' base' : Nat} (hz : ∀ j, lo' ≤ j → j < hi' → lo ≤ j ∧ j < hi ∧ base' + j = base + j) : St w sb bb rb cb hb n Z off c r v er lo' hi' base' :=
  ⟨h.s0, h.s1, h.s2, h.sf, h.b0, h.r0, h.r1, h.r2, h.r3, h.r4, h.r5, h.r6, h.rf, let ⟨G, hG, hq⟩ := h.cr; ⟨G, hG, fun j h1 h2 => by
    obtain ⟨a1, a2, a3⟩ := hz j h1 h2
    rw [hq j a1 a2, a3]⟩, h.hr⟩

theorem St.setOff (h : St w sb bb rb cb hb n Z off c r v er lo hi base) (hA : Ap sb bb rb cb hb) (off' : Nat) : St (w.setCell ⟨sb, 1, none⟩ (.int .i64 (off' : Int))) sb bb rb cb hb n Z off' c r v er lo hi base := by
  have h1 := hA.a1
  have h2 := hA.a2
  have h3 := hA.a3
  have h4 := hA.a4
  have h5 := hA.a5
  have h6 := hA.a6
  have h7 := hA.a7
  have h8 := hA.a8
  have h9 := hA.a9
  exact ⟨by rw [World.cell?_setCell_other _ _ _ _ (ne_addr (by omega))]; exact h.s0,
    World.cell?_setCell_same _ _ _ h.s1,
    by rw [World.cell?_setCell_other _ _ _ _ (ne_addr (by omega))]; exact h.s2,
    fun j => by simpa using h.sf j,
    fun j hj => by rw [World.cell?_setCell_other _ _ _ _ (ne_addr (by omega))]; exact h.b0 j hj,
    by rw [World.cell?_setCell_other _ _ _ _ (ne_addr (by omega))]; exact h.r0,
    by rw [World.cell?_setCell_other _ _ _ _ (ne_addr (by omega))]; exact h.r1,
    by rw [World.cell?_setCell_other _ _ _ _ (ne_addr (by omega))]; exact h.r2,
    by rw [World.cell?_setCell_other _ _ _ _ (ne_addr (by omega))]; exact h.r3,
    by rw [World.cell?_setCell_other _ _ _ _ (ne_addr (by omega))]; exact h.r4,
    let ⟨x, hx⟩ := h.r5; ⟨x, by rw [World.cell?_setCell_other _ _ _ _ (ne_addr (by omega))]; exact hx⟩,
    let ⟨x, hx⟩ := h.r6; ⟨x, by rw [World.cell?_setCell_other _ _ _ _ (ne_addr (by omega))]; exact hx⟩,
    fun j => by simpa using h.rf j,
    let ⟨G, hG, hz⟩ := h.cr; ⟨G, hG.setOther (by show cb ≠ sb; omega) _, hz⟩,
    let ⟨H, hH⟩ := h.hr; ⟨H, hH.setOther (by show hb ≠ sb; omega) _⟩⟩

theorem St.setC (h : St w sb bb rb cb hb n Z off c r v er lo hi base) (hA : Ap sb bb rb cb hb) (c' : Nat) : St (w.setCell ⟨sb, 2, none⟩ (.int .i64 (c' : Int))) sb bb rb cb hb n Z off c' r v er lo hi base := by
  have h1 := hA.a1
  have h2 := hA.a2
  have h3 := hA.a3
  have h4 := hA.a4
  have h5 := hA.a5
  have h6 := hA.a6
  have h7 := hA.a7
  have h8 := hA.a8
  have h9 := hA.a9
  exact ⟨by rw [World.cell?_setCell_other _ _ _ _ (ne_addr (by omega))]; exact h.s0,
    by rw [World.cell?_setCell_other _ _ _ _ (ne_addr (by omega))]; exact h.s1,
    World.cell?_setCell_same _ _ _ h.s2,
    fun j => by simpa using h.sf j,
    fun j hj => by rw [World.cell?_setCell_other _ _ _ _ (ne_addr (by omega))]; exact h.b0 j hj,
    by rw [World.cell?_setCell_other _ _ _ _ (ne_addr (by omega))]; exact h.r0,
    by rw [World.cell?_setCell_other _ _ _ _ (ne_addr (by omega))]; exact h.r1,
    by rw [World.cell?_setCell_other _ _ _ _ (ne_addr (by omega))]; exact h.r2,
    by rw [World.cell?_setCell_other _ _ _ _ (ne_addr (by omega))]; exact h.r3,
    by rw [World.cell?_setCell_other _ _ _ _ (ne_addr (by omega))]; exact h.r4,
    let ⟨x, hx⟩ := h.r5; ⟨x, by rw [World.cell?_setCell_other _ _ _ _ (ne_addr (by omega))]; exact hx⟩,
    let ⟨x, hx⟩ := h.r6; ⟨x, by rw [World.cell?_setCell_other _ _ _ _ (ne_addr (by omega))]; exact hx⟩,
    fun j => by simpa using h.rf j,
    let ⟨G, hG, hz⟩ := h.cr; ⟨G, hG.setOther (by show cb ≠ sb; omega) _, hz⟩,
    let ⟨H, hH⟩ := h.hr; ⟨H, hH.setOther (by show hb ≠ sb; omega) _⟩⟩

theorem St.setR (h : St w sb bb rb cb hb n Z off c r v er lo hi base) (hA : Ap sb bb rb cb hb) (r' : Nat) : St (w.setCell ⟨rb, 2, none⟩ (.int .i64 (r' : Int))) sb bb rb cb hb n Z off c r' v er lo hi base := by
  have h1 := hA.a1
  have h2 := hA.a2
  have h3 := hA.a3
  have h4 := hA.a4
  have h5 := hA.a5
  have h6 := hA.a6
  have h7 := hA.a7
  have h8 := hA.a8
  have h9 := hA.a9
  exact ⟨by rw [World.cell?_setCell_other _ _ _ _ (ne_addr (by omega))]; exact h.s0,
    by rw [World.cell?_setCell_other _ _ _ _ (ne_addr (by omega))]; exact h.s1,
    by rw [World.cell?_setCell_other _ _ _ _ (ne_addr (by omega))]; exact h.s2,
    fun j => by simpa using h.sf j,
    fun j hj => by rw [World.cell?_setCell_other _ _ _ _ (ne_addr (by omega))]; exact h.b0 j hj,
    by rw [World.cell?_setCell_other _ _ _ _ (ne_addr (by omega))]; exact h.r0,
    by rw [World.cell?_setCell_other _ _ _ _ (ne_addr (by omega))]; exact h.r1,
    World.cell?_setCell_same _ _ _ h.r2,
    by rw [World.cell?_setCell_other _ _ _ _ (ne_addr (by omega))]; exact h.r3,
    by rw [World.cell?_setCell_other _ _ _ _ (ne_addr (by omega))]; exact h.r4,
    let ⟨x, hx⟩ := h.r5; ⟨x, by rw [World.cell?_setCell_other _ _ _ _ (ne_addr (by omega))]; exact hx⟩,
    let ⟨x, hx⟩ := h.r6; ⟨x, by rw [World.cell?_setCell_other _ _ _ _ (ne_addr (by omega))]; exact hx⟩,
    fun j => by simpa using h.rf j,
    let ⟨G, hG, hz⟩ := h.cr; ⟨G, hG.setOther (by show cb ≠ rb; omega) _, hz⟩,
    let ⟨H, hH⟩ := h.hr; ⟨H, hH.setOther (by show hb ≠ rb; omega) _⟩⟩

theorem St.setV (h : St w sb bb rb cb hb n Z off c r v er lo hi base) (hA : Ap sb bb rb cb hb) (v' : Nat) : St (w.setCell ⟨rb, 3, none⟩ (.int .i64 (v' : Int))) sb bb rb cb hb n Z off c r v' er lo hi base := by
  have h1 := hA.a1
  have h2 := hA.a2
  have h3 := hA.a3
  have h4 := hA.a4
  have h5 := hA.a5
  have h6 := hA.a6
  have h7 := hA.a7
  have h8 := hA.a8
  have h9 := hA.a9
  exact ⟨by rw [World.cell?_setCell_other _ _ _ _ (ne_addr (by omega))]; exact h.s0,
    by rw [World.cell?_setCell_other _ _ _ _ (ne_addr (by omega))]; exact h.s1,
    by rw [World.cell?_setCell_other _ _ _ _ (ne_addr (by omega))]; exact h.s2,
    fun j => by simpa using h.sf j,
    fun j hj => by rw [World.cell?_setCell_other _ _ _ _ (ne_addr (by omega))]; exact h.b0 j hj,
    by rw [World.cell?_setCell_other _ _ _ _ (ne_addr (by omega))]; exact h.r0,
    by rw [World.cell?_setCell_other _ _ _ _ (ne_addr (by omega))]; exact h.r1,
    by rw [World.cell?_setCell_other _ _ _ _ (ne_addr (by omega))]; exact h.r2,
    World.cell?_setCell_same _ _ _ h.r3,
    by rw [World.cell?_setCell_other _ _ _ _ (ne_addr (by omega))]; exact h.r4,
    let ⟨x, hx⟩ := h.r5; ⟨x, by rw [World.cell?_setCell_other _ _ _ _ (ne_addr (by omega))]; exact hx⟩,
    let ⟨x, hx⟩ := h.r6; ⟨x, by rw [World.cell?_setCell_other _ _ _ _ (ne_addr (by omega))]; exact hx⟩,
    fun j => by simpa using h.rf j,
    let ⟨G, hG, hz⟩ := h.cr; ⟨G, hG.setOther (by show cb ≠ rb; omega) _, hz⟩,
    let ⟨H, hH⟩ := h.hr; ⟨H, hH.setOther (by show hb ≠ rb; omega) _⟩⟩

theorem St.setE (h : St w sb bb rb cb hb n Z off c r v er lo hi base) (hA : Ap sb bb rb cb hb) (er' : Value) : St (w.setCell ⟨rb, 4, none⟩ er') sb bb rb cb hb n Z off c r v er' lo hi base := by
  have h1 := hA.a1
  have h2 := hA.a2
  have h3 := hA.a3
  have h4 := hA.a4
  have h5 := hA.a5
  have h6 := hA.a6
  have h7 := hA.a7
  have h8 := hA.a8
  have h9 := hA.a9
  exact ⟨by rw [World.cell?_setCell_other _ _ _ _ (ne_addr (by omega))]; exact h.s0,
    by rw [World.cell?_setCell_other _ _ _ _ (ne_addr (by omega))]; exact h.s1,
    by rw [World.cell?_setCell_other _ _ _ _ (ne_addr (by omega))]; exact h.s2,
    fun j => by simpa using h.sf j,
    fun j hj => by rw [World.cell?_setCell_other _ _ _ _ (ne_addr (by omega))]; exact h.b0 j hj,
    by rw [World.cell?_setCell_other _ _ _ _ (ne_addr (by omega))]; exact h.r0,
    by rw [World.cell?_setCell_other _ _ _ _ (ne_addr (by omega))]; exact h.r1,
    by rw [World.cell?_setCell_other _ _ _ _ (ne_addr (by omega))]; exact h.r2,
    by rw [World.cell?_setCell_other _ _ _ _ (ne_addr (by omega))]; exact h.r3,
    World.cell?_setCell_same _ _ _ h.r4,
    let ⟨x, hx⟩ := h.r5; ⟨x, by rw [World.cell?_setCell_other _ _ _ _ (ne_addr (by omega))]; exact hx⟩,
    let ⟨x, hx⟩ := h.r6; ⟨x, by rw [World.cell?_setCell_other _ _ _ _ (ne_addr (by omega))]; exact hx⟩,
    fun j => by simpa using h.rf j,
    let ⟨G, hG, hz⟩ := h.cr; ⟨G, hG.setOther (by show cb ≠ rb; omega) _, hz⟩,
    let ⟨H, hH⟩ := h.hr; ⟨H, hH.setOther (by show hb ≠ rb; omega) _⟩⟩

theorem St.set5 (h : St w sb bb rb cb hb n Z off c r v er lo hi base) (hA : Ap sb bb rb cb hb) (x5 : Int) : St (w.setCell ⟨rb, 5, none⟩ (.int .i64 x5)) sb bb rb cb hb n Z off c r v er lo hi base := by
  have h1 := hA.a1
  have h2 := hA.a2
  have h3 := hA.a3
  have h4 := hA.a4
  have h5 := hA.a5
  have h6 := hA.a6
  have h7 := hA.a7
  have h8 := hA.a8
  have h9 := hA.a9
  exact ⟨by rw [World.cell?_setCell_other _ _ _ _ (ne_addr (by omega))]; exact h.s0,
    by rw [World.cell?_setCell_other _ _ _ _ (ne_addr (by omega))]; exact h.s1,
    by rw [World.cell?_setCell_other _ _ _ _ (ne_addr (by omega))]; exact h.s2,
    fun j => by simpa using h.sf j,
    fun j hj => by rw [World.cell?_setCell_other _ _ _ _ (ne_addr (by omega))]; exact h.b0 j hj,
    by rw [World.cell?_setCell_other _ _ _ _ (ne_addr (by omega))]; exact h.r0,
    by rw [World.cell?_setCell_other _ _ _ _ (ne_addr (by omega))]; exact h.r1,
    by rw [World.cell?_setCell_other _ _ _ _ (ne_addr (by omega))]; exact h.r2,
    by rw [World.cell?_setCell_other _ _ _ _ (ne_addr (by omega))]; exact h.r3,
    by rw [World.cell?_setCell_other _ _ _ _ (ne_addr (by omega))]; exact h.r4,
    let ⟨_, hx⟩ := h.r5; ⟨_, World.cell?_setCell_same _ _ _ hx⟩,
    let ⟨x, hx⟩ := h.r6; ⟨x, by rw [World.cell?_setCell_other _ _ _ _ (ne_addr (by omega))]; exact hx⟩,
    fun j => by simpa using h.rf j,
    let ⟨G, hG, hz⟩ := h.cr; ⟨G, hG.setOther (by show cb ≠ rb; omega) _, hz⟩,
    let ⟨H, hH⟩ := h.hr; ⟨H, hH.setOther (by show hb ≠ rb; omega) _⟩⟩

theorem St.set6 (h : St w sb bb rb cb hb n Z off c r v er lo hi base) (hA : Ap sb bb rb cb hb) (x6 : Int) : St (w.setCell ⟨rb, 6, none⟩ (.int .i64 x6)) sb bb rb cb hb n Z off c r v er lo hi base := by
  have h1 := hA.a1
  have h2 := hA.a2
  have h3 := hA.a3
  have h4 := hA.a4
  have h5 := hA.a5
  have h6 := hA.a6
  have h7 := hA.a7
  have h8 := hA.a8
  have h9 := hA.a9
  exact ⟨by rw [World.cell?_setCell_other _ _ _ _ (ne_addr (by omega))]; exact h.s0,
    by rw [World.cell?_setCell_other _ _ _ _ (ne_addr (by omega))]; exact h.s1,
    by rw [World.cell?_setCell_other _ _ _ _ (ne_addr (by omega))]; exact h.s2,
    fun j => by simpa using h.sf j,
    fun j hj => by rw [World.cell?_setCell_other _ _ _ _ (ne_addr (by omega))]; exact h.b0 j hj,
    by rw [World.cell?_setCell_other _ _ _ _ (ne_addr (by omega))]; exact h.r0,
    by rw [World.cell?_setCell_other _ _ _ _ (ne_addr (by omega))]; exact h.r1,
    by rw [World.cell?_setCell_other _ _ _ _ (ne_addr (by omega))]; exact h.r2,
    by rw [World.cell?_setCell_other _ _ _ _ (ne_addr (by omega))]; exact h.r3,
    by rw [World.cell?_setCell_other _ _ _ _ (ne_addr (by omega))]; exact h.r4,
    let ⟨x, hx⟩ := h.r5; ⟨x, by rw [World.cell?_setCell_other _ _ _ _ (ne_addr (by omega))]; exact hx⟩,
    let ⟨_, hx⟩ := h.r6; ⟨_, World.cell?_setCell_same _ _ _ hx⟩,
    fun j => by simpa using h.rf j,
    let ⟨G, hG, hz⟩ := h.cr; ⟨G, hG.setOther (by show cb ≠ rb; omega) _, hz⟩,
    let ⟨H, hH⟩ := h.hr; ⟨H, hH.setOther (by show hb ≠ rb; omega) _⟩⟩

/-- The buffer written anew. -/
theorem St.fill (h : St w sb bb rb cb hb n Z off c r v er lo hi base) (hA : Ap sb bb rb cb hb) {w2 : World} {G : Nat → Value} {lo' hi' base' : Nat} (hr : w2.rowIs cb 5 4096 G) (hg : w.grownBy w2 (some cb)) (hz : ∀ j, lo' ≤ j → j < hi' → G j = .int .u8 (Z (base' + j))) :
    St w2 sb bb rb cb hb n Z off c r v er lo' hi' base' := by
  have h3 := hA.a3
  have h6 := hA.a6
  have h8 := hA.a8
  have h10 := hA.a10
  have k : ∀ b, b ≠ cb → b < w.heap.size → w2.heap[b]? = w.heap[b]? := fun b hb hl => hg.block b hl (fun e => hb (Option.some.inj e))
  have ks := k sb (by omega) (World.block_lt_of_cell? _ _ h.s0)
  have kr := k rb (by omega) (World.block_lt_of_cell? _ _ h.r0)
  exact ⟨by rw [World.cell?_of_block (w := w) ks]; exact h.s0, by rw [World.cell?_of_block (w := w) ks]; exact h.s1, by rw [World.cell?_of_block (w := w) ks]; exact h.s2, fun j => by rw [World.frozen?_of_block (w := w) ks]; exact h.sf j,
    fun j hj => by rw [World.cell?_of_block (w := w) (k bb (by omega) (World.block_lt_of_cell? _ _ (h.b0 j hj)))]; exact h.b0 j hj,
    by rw [World.cell?_of_block (w := w) kr]; exact h.r0, by rw [World.cell?_of_block (w := w) kr]; exact h.r1, by rw [World.cell?_of_block (w := w) kr]; exact h.r2, by rw [World.cell?_of_block (w := w) kr]; exact h.r3, by rw [World.cell?_of_block (w := w) kr]; exact h.r4,
    let ⟨x, hx⟩ := h.r5; ⟨x, by rw [World.cell?_of_block (w := w) kr]; exact hx⟩, let ⟨x, hx⟩ := h.r6; ⟨x, by rw [World.cell?_of_block (w := w) kr]; exact hx⟩, fun j => by rw [World.frozen?_of_block (w := w) kr]; exact h.rf j,
    ⟨G, hr, hz⟩, let ⟨H, hH⟩ := h.hr; ⟨H, hH.of_block (k hb (by omega) hH.lt)⟩⟩

/-- The chunk written anew. -/
theorem St.chunk (h : St w sb bb rb cb hb n Z off c r v er lo hi base) (hA : Ap sb bb rb cb hb) {w2 : World} {H : Nat → Value} (hr : w2.rowIs hb 5 7 H) (hg : w.grownBy w2 (some hb)) : St w2 sb bb rb cb hb n Z off c r v er lo hi base := by
  have h4 := hA.a4
  have h7 := hA.a7
  have h9 := hA.a9
  have h10 := hA.a10
  have k : ∀ b, b ≠ hb → b < w.heap.size → w2.heap[b]? = w.heap[b]? := fun b hb hl => hg.block b hl (fun e => hb (Option.some.inj e))
  have ks := k sb (by omega) (World.block_lt_of_cell? _ _ h.s0)
  have kr := k rb (by omega) (World.block_lt_of_cell? _ _ h.r0)
  exact ⟨by rw [World.cell?_of_block (w := w) ks]; exact h.s0, by rw [World.cell?_of_block (w := w) ks]; exact h.s1, by rw [World.cell?_of_block (w := w) ks]; exact h.s2, fun j => by rw [World.frozen?_of_block (w := w) ks]; exact h.sf j,
    fun j hj => by rw [World.cell?_of_block (w := w) (k bb (by omega) (World.block_lt_of_cell? _ _ (h.b0 j hj)))]; exact h.b0 j hj,
    by rw [World.cell?_of_block (w := w) kr]; exact h.r0, by rw [World.cell?_of_block (w := w) kr]; exact h.r1, by rw [World.cell?_of_block (w := w) kr]; exact h.r2, by rw [World.cell?_of_block (w := w) kr]; exact h.r3, by rw [World.cell?_of_block (w := w) kr]; exact h.r4,
    let ⟨x, hx⟩ := h.r5; ⟨x, by rw [World.cell?_of_block (w := w) kr]; exact hx⟩, let ⟨x, hx⟩ := h.r6; ⟨x, by rw [World.cell?_of_block (w := w) kr]; exact hx⟩, fun j => by rw [World.frozen?_of_block (w := w) kr]; exact h.rf j,
    let ⟨G, hG, hz⟩ := h.cr; ⟨G, hG.of_block (k cb (by omega) hG.lt), hz⟩, ⟨H, hr⟩⟩

/-- Another row written. -/
theorem St.other (h : St w sb bb rb cb hb n Z off c r v er lo hi base) {w2 : World} {g : Nat} (hg : w.grownBy w2 (some g)) (g1 : sb ≠ g) (g2 : bb ≠ g) (g3 : rb ≠ g) (g4 : cb ≠ g) (g5 : hb ≠ g) : St w2 sb bb rb cb hb n Z off c r v er lo hi base := by
  have k : ∀ b, b ≠ g → b < w.heap.size → w2.heap[b]? = w.heap[b]? := fun b hb hl => hg.block b hl (fun e => hb (Option.some.inj e))
  have ks := k sb g1 (World.block_lt_of_cell? _ _ h.s0)
  have kr := k rb g3 (World.block_lt_of_cell? _ _ h.r0)
  exact ⟨by rw [World.cell?_of_block (w := w) ks]; exact h.s0, by rw [World.cell?_of_block (w := w) ks]; exact h.s1, by rw [World.cell?_of_block (w := w) ks]; exact h.s2, fun j => by rw [World.frozen?_of_block (w := w) ks]; exact h.sf j,
    fun j hj => by rw [World.cell?_of_block (w := w) (k bb g2 (World.block_lt_of_cell? _ _ (h.b0 j hj)))]; exact h.b0 j hj,
    by rw [World.cell?_of_block (w := w) kr]; exact h.r0, by rw [World.cell?_of_block (w := w) kr]; exact h.r1, by rw [World.cell?_of_block (w := w) kr]; exact h.r2, by rw [World.cell?_of_block (w := w) kr]; exact h.r3, by rw [World.cell?_of_block (w := w) kr]; exact h.r4,
    let ⟨x, hx⟩ := h.r5; ⟨x, by rw [World.cell?_of_block (w := w) kr]; exact hx⟩, let ⟨x, hx⟩ := h.r6; ⟨x, by rw [World.cell?_of_block (w := w) kr]; exact hx⟩, fun j => by rw [World.frozen?_of_block (w := w) kr]; exact h.rf j,
    let ⟨G, hG, hz⟩ := h.cr; ⟨G, hG.of_block (k cb g4 hG.lt), hz⟩, let ⟨H, hH⟩ := h.hr; ⟨H, hH.of_block (k hb g5 hH.lt)⟩⟩

end
end Go.Proofs.YbulkdlooDoor.A
