/-
  Law CFloat: the walk.
-/
import Derived.Test.YbulkdlooCFloatFns
namespace Go.Proofs.Ybulkdloo.CF
open Go Go.RowKit Go.Deep Go.Proofs.Ybulkdloo.C Go.Proofs.Ybulkdloo.Fl

attribute [local go_sem] run_store_float

theorem fbits (b : Nat) (w : World) : (callFunc 28 #[.float .f64 b]).run Yba.prog w = .ok (.value (.int .u64 (b : Int))) w := by
  rw [run_callFunc_extern Yba.func28 (by kernel_rfl) (by kernel_rfl) (by kernel_rfl) (e := Extern.MathFloatBits.float64bits) (by kernel_rfl)]
  rfl

theorem ffrom (n : Int) (w : World) : (callFunc 24 #[.int .u64 n]).run Yba.prog w = .ok (.value (.float .f64 n.toNat)) w := by
  rw [run_callFunc_extern Yba.func24 (by kernel_rfl) (by kernel_rfl) (by kernel_rfl) (e := Extern.MathFloatBits.float64frombits) (by kernel_rfl)]
  rfl

theorem neq_self (x : Nat) : (FloatKind.f64.format.order x x != some .eq) = nan x := by
  have := order_self x
  simp only [bne, this, Bool.not_not]

theorem isNaN_any (x : Nat) (w : World) : Calls Yba.prog 27 #[.float .f64 x] w fun e w' => e = .returned (.bool (nan x)) ∧ w' = w := by
  go_enter Yba.func27, Yba.ntmps27
  go_wp2
  go_ret
  exact ⟨by rw [neq_self]; rfl, rfl⟩

theorem mk_any (v : Value) (a : Option Addr) (l c : Nat) (hv : v = .slice a l c) (p q : Addr) (w : World) :
    Calls Yba.prog 26 #[v, .pointer (some p), .pointer (some q)] w fun e w' =>
      e = .returned (.func (Fn.func 42) #[] #[.pointer (some ⟨w.heap.size + 1, 0, none⟩), .pointer (some ⟨w.heap.size, 0, none⟩), .pointer (some ⟨w.heap.size + 2, 0, none⟩)]) ∧
      w' = ((w.alloc (.cells #[.slice a l c] 58)).alloc (.cells #[.pointer (some p)] 49)).alloc (.cells #[.pointer (some q)] 49) := by
  subst hv
  go_enter Yba.func26, Yba.ntmps26
  go_wp2
  go_ret
  exact ⟨rfl, rfl⟩

theorem info59 : (Yba.prog.info? 59).map (fun i => (i.zero, i.size, i.bytes)) = some (some (.float .f64 0), 1, 8) := by kernel_rfl

set_option maxHeartbeats 1600000 in
set_option maxRecDepth 1000000 in
theorem law (a : Option Addr) (len cap db dof : Nat) (Z : Nat → Int) (w : World)
    (hdata : ∀ i, i < len → a = some ⟨db, dof, none⟩ ∧ w.cell? ⟨db, dof + i, none⟩ = some (.int .u64 (Z i))) (hlen : len ≤ 9223372036854775807) :
    Calls Yba.prog 6 #[.slice a len cap] w fun e w' => e = .returned (.bool true) ∧ Below w.heap.size w w' := by
  by_cases hbig : 1048576 < len
  · have hz : (1048576 : Int) < (len : Int) := by omega
    go_enter Yba.func6, Yba.ntmps6
    go_wp2
    go_ret
    exact ⟨rfl, Below.refl _ _⟩
  have hz : ¬ ((1048576 : Int) < (len : Int)) := by omega
  have hmk := run_make_row' (P := Yba.prog) 58 59 (.float .f64 0) 8 Yba.underlying58 info59 rfl .i64 .i64 len (by omega) (by omega)
  have hff := ffrom
  go_enter Yba.func6, Yba.ntmps6
  go_wp2_with fail
  clear hmk
  go_loopg [4] len (fun g s4 wr => ∃ (i : Nat), i ≤ len ∧ g = len - i ∧ s4 = .int .i64 i ∧ w.Since w.heap.size wr ∧ wr.heap.size = w.heap.size + 1 ∧ wr.rowIs w.heap.size 59 len (fun j => if j < i then .float .f64 (Z j).toNat else .float .f64 0))
  case atStart => exact ⟨0, Nat.zero_le _, rfl, rfl, (World.Since.refl _ _).alloc (Nat.le_refl _) _, by simp, (World.rowIs_made w _ len 59).congr (fun j _ => by simp)⟩
  case round =>
    obtain ⟨i, hi, rfl, rfl, hS, hsz, hR⟩ := hrel
    by_cases hil : i < len
    · have hiz : (i : Int) < (len : Int) := by omega
      obtain ⟨ha, t1⟩ := hdata i hil
      subst ha
      have t2 : wr.cell? ⟨db, dof + i, none⟩ = some (.int .u64 (Z i)) := by rw [hS.cell (a := ⟨db, dof + i, none⟩) (World.block_lt_of_cell? _ _ t1)]; exact t1
      have t3 : wr.cell? ⟨w.heap.size, i, none⟩ = some (.float .f64 0) := by simpa using hR.cell hil
      have t4 : wr.frozen? ⟨w.heap.size, i, none⟩ = false := hR.frozen i
      go_wp2_with fail
      go_roundg (len - (i + 1))
      case measure => go_light; omega
      case rel =>
        go_light
        refine ⟨i + 1, by omega, rfl, by go_num, hS.setCell (Nat.le_refl _) _, by rw [nblk_setCell, hsz], (hR.set i _).congr (fun j _ => ?_)⟩
        by_cases e : j = i
        · subst e; simp
        · rw [if_neg e]
          by_cases hlt : j < i
          · rw [if_pos hlt, if_pos (by omega)]
          · rw [if_neg hlt, if_neg (by omega)]
    · have hiz : ¬ ((i : Int) < (len : Int)) := by omega
      have hil' : len = i := by omega
      subst hil'
      have hR' : ∀ j, j < len → wr.cell? ⟨w.heap.size, j, none⟩ = some (.float .f64 (Z j).toNat) := fun j hj => by simpa [hj] using hR.cell hj
      clear hff hR hiz hil
      go_wp2_with fail
      refine (mk_any _ _ _ _ rfl _ _ _).mono ?_
      rintro e w1 ⟨rfl, hw1⟩
      have h5 := five wr (w.heap.size + 1) hsz (.int .i64 0) (.int .i64 0) (.slice (some ⟨w.heap.size, 0, none⟩) len len) (.pointer (some ⟨w.heap.size + 1, 0, none⟩)) (.pointer (some ⟨w.heap.size + 2, 0, none⟩)) 3 3 58 49 49
      rw [← hw1] at h5
      clear hw1
      go_wp2_with fail
      have hs5 := h5.size
      refine (sum_any _ _ _ (w.heap.size + 1) w.heap.size len (fun i => (Z i).toNat) w1 (by omega) h5.c3 h5.c0 h5.f0 h5.c2 (fun i hi => by rw [h5.old ⟨w.heap.size, i, none⟩ (by simp)]; exact hR' i hi) (by omega) (by omega) (by omega) (by omega)).mono ?_
      rintro e w2 ⟨got, rfl, hgot, hT⟩
      have hB : Below w.heap.size w w2 := hT.below ((h5.below _ _ ⟨hS.os, hS.tape, hS.output, hS.size, hS.block⟩ (by omega)).alloc (by omega) _) (by omega) (by omega)
      have q1 : w2.cell? ⟨w.heap.size + 1, 0, none⟩ = some (.int .i64 1) := hT.c1
      have q2 : w2.cell? ⟨w.heap.size + 1 + 1, 0, none⟩ = some (.int .i64 0) := by
        rw [hT.cell (p := ⟨w.heap.size + 1 + 1, 0, none⟩) (by simp) (by simp; omega), cell_old _ _ (by simp; omega)]; exact h5.c1
      have q3 : ∀ i, i < len → w2.cell? ⟨w.heap.size, i, none⟩ = some (.float .f64 (Z i).toNat) := fun i hi => by
        rw [hT.cell (p := ⟨w.heap.size, i, none⟩) (by simp) (by simp; omega), cell_old _ _ (by simp; omega), h5.old ⟨w.heap.size, i, none⟩ (by simp)]; exact hR' i hi
      have HG : Hid (SumTo (fun i => (Z i).toNat) len got) := hgot
      clear hgot hT h5 hR' hS hsz hs5
      go_wp2_with fail
      go_loopg [8, 9] len (fun g s8 s9 wx => ∃ (i z d : Nat), i ≤ len ∧ g = len - i ∧ s9 = .int .i64 i ∧ s8 = .float .f64 z ∧ SumTo (fun i => (Z i).toNat) i z ∧ wx = w2.drewN d)
      case atStart => exact ⟨0, 0, 0, Nat.zero_le _, rfl, rfl, rfl, rfl, rfl⟩
      case round =>
        obtain ⟨i, z, d, hi, rfl, rfl, rfl, hz1, rfl⟩ := hrel
        have HZ : Hid (SumTo (fun i => (Z i).toNat) i z) := hz1
        clear hz1
        by_cases hil : i < len
        · have hiz : (i : Int) < (len : Int) := by omega
          have t1 := q3 i hil
          go_wp2_with (refine wpList_float _ rfl .add (by simp) 59 59 (.tmp 39) (.tmp 43) rfl z (Z i).toNat rfl rfl ?_; intro z' d' hst)
          go_roundg (len - (i + 1))
          case measure => go_light; omega
          case rel => go_light; exact ⟨i + 1, z', d + d', by omega, rfl, by go_num, rfl, ⟨z, HZ.out, hst⟩, by first | rfl | simp⟩
        · have hiz : ¬ ((i : Int) < (len : Int)) := by omega
          have hil' : len = i := by omega
          subst hil'
          have hsame := sum_same _ _ _ _ HG.out HZ.out
          have hnn := same_nan hsame
          have fb := fbits
          have hB' : Below w.heap.size w (w2.drewN d) := ⟨hB.os, hB.tape, hB.output, hB.size, hB.block⟩
          cases hn : nan got with
          | true =>
            have hn' : nan z = true := by rw [← hnn]; exact hn
            clear hnn hsame
            go_wp2_with (go_at_call 27; refine (isNaN_any _ _).mono ?_; rintro e w' ⟨rfl, hw⟩; have hw2 := hw.symm; clear hw; subst hw2)
            go_ret
            exact ⟨rfl, hB'⟩
          | false =>
            have hn' : nan z = false := by rw [← hnn]; exact hn
            obtain rfl : got = z := by
              rcases hsame with h | ⟨h, _⟩
              · exact h
              · rw [hn] at h; cases h
            clear hnn hsame hn'
            go_wp2_with (go_at_call 27; refine (isNaN_any _ _).mono ?_; rintro e w' ⟨rfl, hw⟩; have hw2 := hw.symm; clear hw; subst hw2)
            go_ret
            exact ⟨rfl, hB'⟩
end Go.Proofs.Ybulkdloo.CF
