/-
  Law A: the walk.
-/
import Derived.Test.YbulkdlooDoorRead
import Derived.Test.YbulkdlooDoorNew
import Derived.Test.YbulkdlooDoorPre
namespace Go.Proofs.YbulkdlooDoor.A
open Go Go.RowKit Go.Deep Go.Proofs.YbulkdlooDoor.Lib

theorem comp50 : (Ybad.prog.info? 50).map (·.comparable) = some true := by kernel_rfl
theorem size69 : (Ybad.prog.info? 69).map (·.size) = some 1 := by kernel_rfl

/-- 'err != io.EOF', both the same pointer. -/
theorem neq_eof (a : Addr) (w : World) : (binOp .neq 30 (.iface 50 (.pointer (some a))) (.iface 50 (.pointer (some a)))).run Ybad.prog w = .ok (.bool false) w := by
  obtain ⟨i, hi, hc⟩ := Option.map_eq_some_iff.1 comp50
  obtain ⟨j, hj, _⟩ := Option.map_eq_some_iff.1 size69
  simp only [binOp]
  simp [Op.equal, Op.maxDepth, run_equalIn_iface_ptr_same w 9998 a Ybad.underlying30 Ybad.underlying50 hi hc hj]

set_option maxHeartbeats 1600000 in
set_option maxRecDepth 1000000 in
theorem law (a : Option Addr) (len cap db dof : Nat) (Z : Nat → Int) (ea : Addr) (w : World) (hlen : len ≤ 9223372036854775807)
    (hdata : ∀ i, i < len → a = some ⟨db, dof, none⟩ ∧ w.cell? ⟨db, dof + i, none⟩ = some (.int .u8 (Z i))) (hg : w.cell? ⟨0, 0, none⟩ = some (.iface 50 (.pointer (some ea)))) :
    Calls Ybad.prog 3 #[.slice a len cap] w fun e w' => e = .returned (.bool true) ∧ Below w.heap.size w w' := by
  by_cases hbig : 1048576 < len
  · have hz : (1048576 : Int) < (len : Int) := by omega
    go_enter Ybad.func3, Ybad.ntmps3
    go_wp2
    go_ret
    exact ⟨rfl, Below.refl _ _⟩
  have hz : ¬ ((1048576 : Int) < (len : Int)) := by omega
  have hmk := run_make_row' (P := Ybad.prog) 22 5 (.int .u8 0) 1 Ybad.underlying22 info5 rfl .i64 .i64 len (by omega) (by omega)
  have old : ∀ i, i < len → db < w.heap.size := fun i hi => World.block_lt_of_cell? _ _ (hdata i hi).2
  -- buf and keep
  obtain ⟨w1, hc1, hr1, hg1, hs1⟩ := run_copy_all (P := Ybad.prog) (w.alloc (.cells (madeCells #[.int .u8 0] len) 5)) 22 22 3 5 Ybad.underlying22 info5s w.heap.size len len cap db dof a _ (World.rowIs_made w _ len 5) (fun j => .int .u8 (Z j))
    (fun j hj => ⟨(hdata j hj).1, by rw [World.cell?_alloc_old _ _ _ (by show db ≠ w.heap.size; have := old j hj; omega)]; exact (hdata j hj).2⟩) (fun _ _ => rfl)
  have hS1 : w.Since w.heap.size w1 := ((World.Since.refl _ w).alloc (Nat.le_refl _) _).grown hg1 (by simp) (by intro k hk; simp at hk; omega)
  have hz1 : w1.heap.size = w.heap.size + 1 := by rw [hs1]; simp
  obtain ⟨w2, hc2, hr2, hg2, hs2⟩ := run_copy_all (P := Ybad.prog) (w1.alloc (.cells (madeCells #[.int .u8 0] len) 5)) 22 22 3 5 Ybad.underlying22 info5s w1.heap.size len len cap db dof a _ (World.rowIs_made w1 _ len 5) (fun j => .int .u8 (Z j))
    (fun j hj => ⟨(hdata j hj).1, by rw [World.cell?_alloc_old _ _ _ (by show db ≠ w1.heap.size; have := old j hj; omega), hS1.cell (a := ⟨db, dof + j, none⟩) (old j hj)]; exact (hdata j hj).2⟩) (fun _ _ => rfl)
  have hS2 : w.Since w.heap.size w2 := (hS1.alloc (by omega) _).grown hg2 (by simp; omega) (by intro k hk; simp at hk; omega)
  have hz2 : w2.heap.size = w.heap.size + 2 := by rw [hs2]; simp [hz1]
  have hb2 : w2.rowIs w.heap.size 5 len (fun j => .int .u8 (Z j)) := (hr1.alloc _).of_block (hg2.block _ (by simp; omega) (by simp; omega))
  rw [hz1] at hc2 hr2
  go_enter Ybad.func3, Ybad.ntmps3
  go_wp2_with fail
  refine (newLine_any _ _).mono ?_
  rintro e w3 ⟨rfl, hw3⟩
  have hP : Pre w w3 len Z := by
    have := pre_mk hS2 hz2 hb2 hr2
    rw [hw3]
    simpa [hz2] using this
  clear hw3 hc1 hc2 hr1 hr2 hg1 hg2 hs1 hs2 hS1 hS2 hz1 hb2 hmk
  have hsz3 := hP.size
  have p1 := hP.l0
  have p2 := hP.l1
  have p3 := hP.l2
  have p4 := hP.s2
  have p5 := hP.r0
  go_wp2_with (first | (go_at_call 5; refine (size_any (w.heap.size + 3) (w.heap.size + 4) 4096 _ p5).mono ?_; rintro e w' ⟨rfl, hw⟩; have hw2 := hw.symm; clear hw; subst hw2) | fail)
  refine (buffered_zero (w.heap.size + 3) w3 hP.r2 hP.r3).mono ?_
  rintro e w4 ⟨rfl, d, hw4⟩
  have hP4 : Pre w w4 len Z := by rw [hw4]; exact hP.drewN d
  clear hw4 p1 p2 p3 p4 p5 hP hsz3
  have hsz4 := hP4.size
  have hmk0 := run_make0_row (P := Ybad.prog) 22 5 (.int .u8 0) 1 Ybad.underlying22 info5 rfl .i64 .i64 len (by omega) (by omega)
  have hmk7 : ∀ w : World, (Instr.makeSlice 22 (.int .i64 7) (.int .i64 7)).run Ybad.prog w = .ok (.slice (some ⟨w.heap.size, 0, none⟩) 7 7) (w.alloc (.cells (madeCells #[.int .u8 0] 7) 5)) := run_make_row' (P := Ybad.prog) 22 5 (.int .u8 0) 1 Ybad.underlying22 info5 rfl .i64 .i64 7 (by omega) (by omega)
  go_wp2_with fail
  obtain ⟨hT, hO, hK, hL, hSi⟩ := st_start hP4
  have hF := (hP4.bf.alloc (.cells (madeCells #[.int .u8 0] len) 5)).alloc (.cells (madeCells #[.int .u8 0] 7) 5)
  clear hmk0 hmk7
  generalize (w4.alloc (.cells (madeCells #[.int .u8 0] len) 5)).alloc (.cells (madeCells #[.int .u8 0] 7) 5) = w5 at hT hO hK hL hSi hF ⊢
  clear hP4 hsz4 hz2
  go_loopg [7, 9, 10] (len + 1) (fun g s7 s9 s10 wx => ∃ (i o off r v c : Nat), i ≤ o ∧ g = len + 1 - i ∧ s10 = .int .i64 i ∧ s9 = .bool false ∧ s7 = .slice (some ⟨w.heap.size + 6, 0, none⟩) o len ∧
    St wx (w.heap.size + 2) w.heap.size (w.heap.size + 3) (w.heap.size + 4) (w.heap.size + 7) len Z off c r v .nilIface r v (off - v) ∧ Num len o off c r v ∧
    wx.rowIs (w.heap.size + 6) 5 len (fun j => if j < o then .int .u8 (Z j) else .int .u8 0) ∧ wx.rowIs (w.heap.size + 1) 5 len (fun j => .int .u8 (Z j)) ∧ wx.cell? ⟨w.heap.size + 5, 0, none⟩ = some (.pointer (some ⟨w.heap.size + 3, 0, none⟩)) ∧ w.Since w.heap.size wx ∧ wx.rowIs w.heap.size 5 len (fun j => .int .u8 (Z j)))
  case atStart => exact ⟨0, 0, 0, 0, 0, 0, Nat.le_refl _, rfl, rfl, rfl, rfl, hT, ⟨Nat.le_refl _, by omega, Nat.le_refl _, Nat.zero_le _, rfl, Nat.le_refl _⟩, hO.congr (fun j _ => by simp), hK, hL, hSi, hF⟩
  case round =>
    clear hT hO hK hL hSi hF
    obtain ⟨i, o, off, r, v, c, hio, rfl, rfl, rfl, rfl, hT, hN, hO, hK, hL, hSi, hF⟩ := hrel
    have non := hN.on
    have noo := hN.oo
    have hil : (i : Int) ≤ (len : Int) + 1 := by omega
    have p1 : wr.cell? ⟨w.heap.size + 2 + 1 + 2, 0, none⟩ = some (.pointer (some ⟨w.heap.size + 3, 0, none⟩)) := hL
    obtain ⟨i0, hi, hz0, hz1, hz2⟩ := info_parts info5
    have h0w : 0 < w.heap.size := World.block_lt_of_cell? _ _ hg
    have hgr : wr.cell? ⟨0, 0, none⟩ = some (.iface 50 (.pointer (some ea))) := by rw [hSi.cell (a := ⟨0, 0, none⟩) h0w]; exact hg
    go_wp2_with fail
    refine (read_any (w.heap.size + 2) w.heap.size (w.heap.size + 3) (w.heap.size + 4) (w.heap.size + 7) len Z o off r v c 50 ea wr hT hN (apart _) (by omega) hgr ⟨by omega, by omega, by omega, by omega⟩).mono ?_
    rintro e w6 ⟨hKe, ⟨hon, rfl⟩ | ⟨k, off', r', v', c', k1, k7, kn, rfl, hT', hN', hch⟩⟩
    · have hO6 := hKe.row (by omega) (by omega) (by omega) (by omega) hO
      have hK6 := hKe.row (by omega) (by omega) (by omega) (by omega) hK
      have hB6 : w6.rowIs w.heap.size 5 len (fun j => .int .u8 (Z j)) := hKe.row (by omega) (by omega) (by omega) (by omega) hF
      have hg6 : w6.cell? ⟨0, 0, none⟩ = some (.iface 50 (.pointer (some ea))) := by rw [hKe.cell (p := ⟨0, 0, none⟩) (by simp) (by simp) (by simp) (by simp)]; exact hgr
      have HO : Hid (o = len) := hon
      have hne : ((o : Int) != (len : Int)) = false := by rw [hon]; simp
      have hno := neq_eof ea
      clear hon
      go_wp2_with (at_builtin; refine wpList_append_row _ rfl (.tmp 106) (.tmp 109) 22 rfl 5 i0 Ybad.underlying22 hi hz1 (w.heap.size + 6) o len _ rfl hO6 ⟨w.heap.size + 7, 0, none⟩ 0 7 (fun _ => .int .u8 0) rfl (fun j hj => absurd hj (Nat.not_lt_zero _)) (fun _ _ => rfl) (by omega) ?_; intro w7 hO7 hg7 hs7; have hg7' : w7.cell? ⟨0, 0, none⟩ = some (.iface 50 (.pointer (some ea))) := (by rw [World.cell?_of_block (w := w6) (hg7.block 0 (World.block_lt_of_cell? _ _ hg6) (by simp))]; exact hg6))
      have hSi6 : w.Since w.heap.size w6 := hSi.trans ⟨hKe.os, hKe.tape, hKe.output, by rw [hKe.size]; exact Nat.le_refl _, fun k hk => hKe.block k (by omega) (by omega) (by omega) (by omega)⟩
      have hSi7 : w.Since w.heap.size w7 := hSi6.grown hg7 (by have := hB6.lt; omega) (by intro k hk; simp at hk; omega)
      have e0 : ∀ j, j < len → w7.cell? ⟨w.heap.size + 6, j, none⟩ = some (.int .u8 (Z j)) := fun j hj => by
        rw [hO7.cell hj]
        have ho := HO.out
        congr 1
        split
        · exfalso; omega
        · rw [if_pos (by omega)]
      have e1 : ∀ j, j < len → w7.cell? ⟨w.heap.size + 1, j, none⟩ = some (.int .u8 (Z j)) := fun j hj => (hK6.of_block (hg7.block _ hK6.lt (by simp))).cell hj
      have e2 : ∀ j, j < len → w7.cell? ⟨w.heap.size, j, none⟩ = some (.int .u8 (Z j)) := fun j hj => (hB6.of_block (hg7.block _ hB6.lt (by simp))).cell hj
      have e3 : ∀ j, j < len → a = some ⟨db, dof, none⟩ ∧ w7.cell? ⟨db, dof + j, none⟩ = some (.int .u8 (Z j)) := fun j hj => ⟨(hdata j hj).1, by rw [hSi7.cell (a := ⟨db, dof + j, none⟩) (old j hj)]; exact (hdata j hj).2⟩
      clear hO7 hg7 hs7 hg7' hO6 hK6 hB6 hg6 hno hne hKe hT hN hO hK hL hF hgr p1 hSi hSi6
      go_loopg [13] len (fun g s13 wx => ∃ (j d : Nat), j ≤ len ∧ g = len - j ∧ s13 = .int .i64 j ∧ wx = w7.drewN d)
      case atStart => exact ⟨0, 0, Nat.zero_le _, rfl, rfl, rfl⟩
      case round =>
        obtain ⟨j, d', hj, rfl, rfl, rfl⟩ := hrel
        by_cases hjl : j < len
        · have hjz : (j : Int) < (len : Int) := by omega
          have hjo : (j : Int) < (o : Int) := by have := HO.out; omega
          have t0 := e0 j hjl
          have t1 := e1 j hjl
          have t2 := e2 j hjl
          obtain ⟨ha, t3⟩ := e3 j hjl
          subst ha
          go_wp2_with fail
          go_quiet (fail)
          go_wp2_with fail
          go_roundg (len - (j + 1))
          case measure => go_light; omega
          case rel => go_light; exact ⟨j + 1, _, by omega, rfl, by go_num, rfl⟩
        · have hjz : ¬ ((j : Int) < (len : Int)) := by omega
          go_wp2
          go_ret
          exact ⟨rfl, ⟨hSi7.os, hSi7.tape, hSi7.output, hSi7.size, hSi7.block⟩⟩
    · have hO6 := hKe.row (by omega) (by omega) (by omega) (by omega) hO
      have hz7 : (k : Int) ≤ 7 := by omega
      have hk7 : ¬ ((7 : Int) < (k : Int)) := by omega
      have hk0 : ¬ ((k : Int) < 0) := by omega
      go_wp2_with (at_builtin; refine wpList_append_row _ rfl (.tmp 106) (.tmp 109) 22 rfl 5 i0 Ybad.underlying22 hi hz1 (w.heap.size + 6) o len _ rfl hO6 ⟨w.heap.size + 7, 0, none⟩ k 7 (fun j => .int .u8 (Z (o + j))) rfl (fun j hj => by rw [Addr.add_lit, Nat.zero_add]; exact hch j hj) (fun _ _ => rfl) kn ?_; intro w7 hO7 hg7 hs7)
      go_roundg (len + 1 - (i + 1))
      case measure => go_light; omega
      case rel =>
        go_light
        have hSi6 : w.Since w.heap.size w6 := hSi.trans ⟨hKe.os, hKe.tape, hKe.output, by rw [hKe.size]; exact Nat.le_refl _, fun k hk => hKe.block k (by omega) (by omega) (by omega) (by omega)⟩
        have hK6 := hKe.row (by omega) (by omega) (by omega) (by omega) hK
        have hF6 := hKe.row (by omega) (by omega) (by omega) (by omega) hF
        have hL6 : w6.cell? ⟨w.heap.size + 5, 0, none⟩ = some (.pointer (some ⟨w.heap.size + 3, 0, none⟩)) := by rw [hKe.cell (p := ⟨w.heap.size + 5, 0, none⟩) (by simp) (by simp) (by simp) (by simp)]; exact hL
        refine ⟨i + 1, o + k, off', r', v', c', by omega, rfl, by go_num, rfl, rfl, hT'.other hg7 (by omega) (by omega) (by omega) (by omega) (by omega), hN', hO7.congr (fun j hj => ?_), hK6.of_block (hg7.block _ hK6.lt (by simp)), by rw [World.cell?_of_block (w := w6) (hg7.block _ (World.block_lt_of_cell? _ _ hL6) (by simp))]; exact hL6, hSi6.grown hg7 (by have := hF6.lt; omega) (by intro k hk; simp at hk; omega), hF6.of_block (hg7.block _ hF6.lt (by simp))⟩
        by_cases h1 : j < o
        · rw [if_neg (by omega), if_pos h1, if_pos (by omega)]
        · by_cases h2 : j < o + k
          · rw [if_pos (by omega), if_pos h2, show o + (j - o) = j by omega]
          · rw [if_neg (by omega), if_neg h1, if_neg h2]
end Go.Proofs.YbulkdlooDoor.A
