/-
  Law BUnsigned: the walk of 'stepping'.
-/
import Derived.Test.YbulkdlooUSmall
namespace Go.Proofs.Ybulkdloo.U
open Go Go.RowKit Go.Deep Go.Proofs.Ybulkdloo.BP

theorem buf_slice (b m : Nat) (hm : m ≤ 32) (w : World) : (Instr.sliceAt 73 (.pointer (some ⟨b, 0, none⟩)) none (some (.int .i64 (m : Int))) none).run Yba.prog w = .ok (.slice (some ⟨b, 0, none⟩) m 32) w := by
  have hA : Yba.prog.arrayLen 73 = 32 := by kernel_rfl
  have hE : Yba.prog.elem 73 = 5 := by kernel_rfl
  have hu : Yba.prog.underlying 73 = some (.array (Yba.prog.arrayLen 73) (Yba.prog.elem 73)) := by kernel_rfl
  have hsz : (sizeOf (Yba.prog.elem 73)).run Yba.prog w = .ok 1 w := by
    rw [hE]
    simp [sizeOf, go_sem]
    rfl
  rw [run_sliceAt_array_h w 73 _ hu .i64 m (by omega) (by rw [hA]; omega), hsz, hA]
  simp [Result.andThen, slicedAt, Addr.add_lit]

theorem before_is (x v d : Int) (hx : x = IntKind.u8.wrap (v + d)) (hv : 0 ≤ v ∧ v ≤ 255) (hd : 0 ≤ d ∧ d ≤ 255) (w : World) :
    Calls Yba.prog 35 #[.int .u8 x, .int .u8 v, .int .u8 d] w fun e w' => e = .returned (.bool (decide (v + d < 0 ∨ 255 < v + d))) ∧ w' = w := by
  refine (before_any x v d w).mono ?_
  rintro e w' ⟨rfl, rfl⟩
  refine ⟨?_, rfl⟩
  rw [wrap_k] at hx
  by_cases h : 0 < d
  · rw [if_pos h, (decide_eq_decide (p := x < v) (q := v + d < 0 ∨ 255 < v + d)).2 (by omega)]
  · rw [if_neg h, (decide_eq_decide (p := v < x) (q := v + d < 0 ∨ 255 < v + d)).2 (by omega)]

set_option maxHeartbeats 4000000 in
set_option maxRecDepth 1000000 in
theorem seq_any (n start : Int) (gc sb nb tb : Nat) (a : Option Addr) (L0 cap db dof L : Nat) (D : Nat → Int) (w : World) (hn : -9223372036854775808 ≤ n ∧ n ≤ 9223372036854775807) (hl : L0 ≤ 65536) (hcap : L0 ≤ cap) (hs : 0 ≤ start ∧ start ≤ 255)
    (hL : (0 < L0 ∧ L = L0) ∨ (L0 = 0 ∧ L = 1 ∧ D 0 = 1)) (hdata : ∀ i, i < L0 → a = some ⟨db, dof, none⟩ ∧ w.cell? ⟨db, dof + i, none⟩ = some (.int .u8 (D i))) (hD : ∀ i, i < L → 0 ≤ D i ∧ D i ≤ 255)
    (h1 : w.cell? ⟨sb, 0, none⟩ = some (.slice a L0 cap)) (h2 : w.cell? ⟨nb, 0, none⟩ = some (.int .i64 n)) (h3 : w.cell? ⟨tb, 0, none⟩ = some (.int .u8 start))
    (h4 : w.cell? ⟨gc, 0, none⟩ = some (.slice none 0 0)) (h4f : w.frozen? ⟨gc, 0, none⟩ = false) (hdb : db ≠ gc) :
    Calls Yba.prog 33 #[.func (Fn.func 14) #[] #[.pointer (some ⟨gc, 0, none⟩)], .pointer (some ⟨sb, 0, none⟩), .pointer (some ⟨nb, 0, none⟩), .pointer (some ⟨tb, 0, none⟩)] w fun e w' =>
      e = .returned (.tuple #[]) ∧ ∃ K wm, EndsAt n 0 255 (V start D L) K ∧ Below w.heap.size w wm ∧ Got wm w' gc 5 (row .u8 (V start D L) K) := by
  have hLp : 0 < L := by omega
  have hLb : L ≤ 65536 := by omega
  have hglt : gc < w.heap.size := World.block_lt_of_cell? _ _ h4
  go_enter Yba.func33, Yba.ntmps33
  go_upto_if 24 with fail
  go_cut [5] (fun s5 wx => ∃ db' dof' cap', s5 = .slice (some ⟨db', dof', none⟩) L cap' ∧ L ≤ cap' ∧ (∀ i, i < L → wx.cell? ⟨db', dof' + i, none⟩ = some (.int .u8 (D i))) ∧ Below w.heap.size w wx ∧ db' ≠ gc)
  case first =>
    rcases hL with ⟨hp, rfl⟩ | ⟨rfl, rfl, hone⟩
    · have hz : ((L : Int) == 0) = false := by rw [beq_eq_false_iff_ne]; omega
      obtain ⟨rfl, _⟩ := hdata 0 hp
      go_wp2_with fail
      go_meet
      go_light
      exact ⟨db, dof, cap, rfl, hcap, fun i hi => (hdata i hi).2, Below.refl _ _, hdb⟩
    · go_wp2_with fail
      go_meet
      go_light
      refine ⟨w.heap.size, 0, 1, rfl, by omega, fun i hi => ?_, (Below.refl _ _).alloc (Nat.le_refl _) _, by omega⟩
      obtain rfl : i = 0 := by omega
      rw [hone]
      exact C.cell_new _ _ _ rfl
  case rest =>
    obtain ⟨db', dof', cap', rfl, hcap', hrow, hB, hdb'⟩ := hcut
    rename World => w1
    clear hdata hL hcap hdb
    have oldc : ∀ (p : Addr) (u : Value), w.cell? p = some u → w1.cell? p = some u := fun p u h => by
      rw [World.cell?_of_block (w := w) (hB.block p.block (World.block_lt_of_cell? _ _ h))]; exact h
    have g2 := oldc _ _ h2
    have g3 := oldc _ _ h3
    have g4 := oldc _ _ h4
    have g4f : w1.frozen? ⟨gc, 0, none⟩ = false := by rw [World.frozen?_of_block (w := w) (a := ⟨gc, 0, none⟩) (hB.block gc hglt)]; exact h4f
    clear h1 h2 h3 h4 h4f oldc
    have hw1 : w.heap.size ≤ w1.heap.size := hB.size
    have n2 : nb < w1.heap.size := World.block_lt_of_cell? _ _ g2
    have n3 : tb < w1.heap.size := World.block_lt_of_cell? _ _ g3
    have b2 : ∀ o, (w1.alloc o).cell? ⟨nb, 0, none⟩ = some (.int .i64 n) := fun o => by rw [World.cell?_alloc_old _ _ _ (by simp; omega)]; exact g2
    go_upto_region 5 with fail
    have hW1 : (w1.alloc (.cells #[Value.int .u8 0, Value.int .u8 0, Value.int .u8 0, Value.int .u8 0, Value.int .u8 0, Value.int .u8 0, Value.int .u8 0, Value.int .u8 0, Value.int .u8 0, Value.int .u8 0, Value.int .u8 0, Value.int .u8 0, Value.int .u8 0, Value.int .u8 0, Value.int .u8 0, Value.int .u8 0, Value.int .u8 0, Value.int .u8 0, Value.int .u8 0, Value.int .u8 0, Value.int .u8 0, Value.int .u8 0, Value.int .u8 0, Value.int .u8 0, Value.int .u8 0, Value.int .u8 0, Value.int .u8 0, Value.int .u8 0, Value.int .u8 0, Value.int .u8 0, Value.int .u8 0, Value.int .u8 0] 73)).rowIs w1.heap.size 73 32 (fun _ => .int .u8 0) := World.rowIs_alloc w1 #[Value.int .u8 0, Value.int .u8 0, Value.int .u8 0, Value.int .u8 0, Value.int .u8 0, Value.int .u8 0, Value.int .u8 0, Value.int .u8 0, Value.int .u8 0, Value.int .u8 0, Value.int .u8 0, Value.int .u8 0, Value.int .u8 0, Value.int .u8 0, Value.int .u8 0, Value.int .u8 0, Value.int .u8 0, Value.int .u8 0, Value.int .u8 0, Value.int .u8 0, Value.int .u8 0, Value.int .u8 0, Value.int .u8 0, Value.int .u8 0, Value.int .u8 0, Value.int .u8 0, Value.int .u8 0, Value.int .u8 0, Value.int .u8 0, Value.int .u8 0, Value.int .u8 0, Value.int .u8 0] 73 _ (fun i hi => by
      rw [show (#[Value.int .u8 0, Value.int .u8 0, Value.int .u8 0, Value.int .u8 0, Value.int .u8 0, Value.int .u8 0, Value.int .u8 0, Value.int .u8 0, Value.int .u8 0, Value.int .u8 0, Value.int .u8 0, Value.int .u8 0, Value.int .u8 0, Value.int .u8 0, Value.int .u8 0, Value.int .u8 0, Value.int .u8 0, Value.int .u8 0, Value.int .u8 0, Value.int .u8 0, Value.int .u8 0, Value.int .u8 0, Value.int .u8 0, Value.int .u8 0, Value.int .u8 0, Value.int .u8 0, Value.int .u8 0, Value.int .u8 0, Value.int .u8 0, Value.int .u8 0, Value.int .u8 0, Value.int .u8 0] : Array Value) = Array.replicate 32 (.int .u8 0) from rfl]
      have hi' : i < 32 := hi
      simp [hi'])
    have hW2 : w1.Since w1.heap.size (w1.alloc (.cells #[Value.int .u8 0, Value.int .u8 0, Value.int .u8 0, Value.int .u8 0, Value.int .u8 0, Value.int .u8 0, Value.int .u8 0, Value.int .u8 0, Value.int .u8 0, Value.int .u8 0, Value.int .u8 0, Value.int .u8 0, Value.int .u8 0, Value.int .u8 0, Value.int .u8 0, Value.int .u8 0, Value.int .u8 0, Value.int .u8 0, Value.int .u8 0, Value.int .u8 0, Value.int .u8 0, Value.int .u8 0, Value.int .u8 0, Value.int .u8 0, Value.int .u8 0, Value.int .u8 0, Value.int .u8 0, Value.int .u8 0, Value.int .u8 0, Value.int .u8 0, Value.int .u8 0, Value.int .u8 0] 73)) := (World.Since.refl _ _).alloc (Nat.le_refl _) _
    have hW3 : (w1.alloc (.cells #[Value.int .u8 0, Value.int .u8 0, Value.int .u8 0, Value.int .u8 0, Value.int .u8 0, Value.int .u8 0, Value.int .u8 0, Value.int .u8 0, Value.int .u8 0, Value.int .u8 0, Value.int .u8 0, Value.int .u8 0, Value.int .u8 0, Value.int .u8 0, Value.int .u8 0, Value.int .u8 0, Value.int .u8 0, Value.int .u8 0, Value.int .u8 0, Value.int .u8 0, Value.int .u8 0, Value.int .u8 0, Value.int .u8 0, Value.int .u8 0, Value.int .u8 0, Value.int .u8 0, Value.int .u8 0, Value.int .u8 0, Value.int .u8 0, Value.int .u8 0, Value.int .u8 0, Value.int .u8 0] 73)).cell? ⟨nb, 0, none⟩ = some (.int .i64 n) := b2 _
    have hW4 : (w1.alloc (.cells #[Value.int .u8 0, Value.int .u8 0, Value.int .u8 0, Value.int .u8 0, Value.int .u8 0, Value.int .u8 0, Value.int .u8 0, Value.int .u8 0, Value.int .u8 0, Value.int .u8 0, Value.int .u8 0, Value.int .u8 0, Value.int .u8 0, Value.int .u8 0, Value.int .u8 0, Value.int .u8 0, Value.int .u8 0, Value.int .u8 0, Value.int .u8 0, Value.int .u8 0, Value.int .u8 0, Value.int .u8 0, Value.int .u8 0, Value.int .u8 0, Value.int .u8 0, Value.int .u8 0, Value.int .u8 0, Value.int .u8 0, Value.int .u8 0, Value.int .u8 0, Value.int .u8 0, Value.int .u8 0] 73)).heap.size = w1.heap.size + 1 := by simp
    generalize w1.alloc (.cells #[Value.int .u8 0, Value.int .u8 0, Value.int .u8 0, Value.int .u8 0, Value.int .u8 0, Value.int .u8 0, Value.int .u8 0, Value.int .u8 0, Value.int .u8 0, Value.int .u8 0, Value.int .u8 0, Value.int .u8 0, Value.int .u8 0, Value.int .u8 0, Value.int .u8 0, Value.int .u8 0, Value.int .u8 0, Value.int .u8 0, Value.int .u8 0, Value.int .u8 0, Value.int .u8 0, Value.int .u8 0, Value.int .u8 0, Value.int .u8 0, Value.int .u8 0, Value.int .u8 0, Value.int .u8 0, Value.int .u8 0, Value.int .u8 0, Value.int .u8 0, Value.int .u8 0, Value.int .u8 0] 73) = W at hW1 hW2 hW3 hW4 ⊢
    clear b2
    go_cut [39] (fun s wx => s = .bool (decide (L ≤ 16 ∧ (n < 0 ∨ (L : Int) < n))) ∧ W = wx)
    case first =>
      by_cases hk6 : L ≤ 16
      · have hk6z : (L : Int) ≤ 16 := by omega
        by_cases hn0 : n < 0
        · go_wp2_with fail
          go_meet
          go_light
          exact ⟨congrArg Value.bool (decide_eq_true ⟨hk6, .inl hn0⟩).symm, rfl⟩
        · by_cases hkn : (L : Int) < n
          · go_wp2_with fail
            go_meet
            go_light
            exact ⟨congrArg Value.bool (decide_eq_true ⟨hk6, .inr hkn⟩).symm, rfl⟩
          · go_wp2_with fail
            go_meet
            go_light
            exact ⟨congrArg Value.bool (decide_eq_false (fun h => by omega)).symm, rfl⟩
      · have hk6z : ¬ ((L : Int) ≤ 16) := by omega
        go_wp2_with fail
        go_meet
        go_light
        exact ⟨congrArg Value.bool (decide_eq_false (fun h => by omega)).symm, rfl⟩
    case rest =>
      obtain ⟨rfl, rfl⟩ := hcut
      go_upto_if 39 with fail
      go_cut [7, 8, 10, 54, 55, 56] (fun s7 _ _ _ _ _ wx => ∃ cb co C capC, s7 = .slice (some ⟨cb, co, none⟩) C capC ∧ 0 < C ∧ C ≤ 65536 ∧ C ≤ capC ∧ C % L = 0 ∧ cb ≠ gc ∧ (∀ t, t < C → wx.cell? ⟨cb, co + t, none⟩ = some (.int .u8 (D (t % L)))) ∧ w1.Since w1.heap.size wx)
      case first =>
        by_cases hc : L ≤ 16 ∧ (n < 0 ∨ (L : Int) < n)
        · rw [decide_eq_true hc]
          obtain ⟨hc1, hc2⟩ := hc
          go_wp2_with fail
          go_loopg [8] 32 (fun g s8 wx => ∃ m : Nat, m ≤ 32 ∧ g = 32 - m ∧ s8 = .int .i64 m ∧ m % L = 0 ∧ wx.rowIs w1.heap.size 73 32 (fun t => if t < m then .int .u8 (D (t % L)) else .int .u8 0) ∧ w1.Since w1.heap.size wx)
          case atStart => exact ⟨0, by omega, rfl, rfl, Nat.zero_mod _, hW1.congr (fun t _ => by simp), hW2⟩
          case round =>
            clear hW1 hW2 hW3 hW4
            obtain ⟨m, hm, rfl, rfl, hmL, hR, hS⟩ := hrel
            have HML : Hid (m % L = 0) := hmL
            clear hmL
            have hWn : wr.cell? ⟨nb, 0, none⟩ = some (.int .i64 n) := by rw [hS.cell (a := ⟨nb, 0, none⟩) n2]; exact g2
            go_upto_region 7 with fail
            go_cut [53] (fun s wx => s = .bool (decide (m + L ≤ 32 ∧ (n < 0 ∨ (m : Int) < n))) ∧ wr = wx)
            case first =>
              by_cases hk6 : m + L ≤ 32
              · have hk6z : (m : Int) + (L : Int) ≤ 32 := by omega
                by_cases hn0 : n < 0
                · go_wp2_with fail
                  go_meet
                  go_light
                  exact ⟨congrArg Value.bool (decide_eq_true ⟨hk6, .inl hn0⟩).symm, rfl⟩
                · by_cases hkn : (m : Int) < n
                  · go_wp2_with fail
                    go_meet
                    go_light
                    exact ⟨congrArg Value.bool (decide_eq_true ⟨hk6, .inr hkn⟩).symm, rfl⟩
                  · go_wp2_with fail
                    go_meet
                    go_light
                    exact ⟨congrArg Value.bool (decide_eq_false (fun h => by omega)).symm, rfl⟩
              · have hk6z : ¬ ((m : Int) + (L : Int) ≤ 32) := by omega
                go_wp2_with fail
                go_meet
                go_light
                exact ⟨congrArg Value.bool (decide_eq_false (fun h => by omega)).symm, rfl⟩
            case rest =>
              obtain ⟨rfl, rfl⟩ := hcut
              by_cases hc : m + L ≤ 32 ∧ (n < 0 ∨ (m : Int) < n)
              · rw [decide_eq_true hc]
                obtain ⟨hmL32, _⟩ := hc
                go_wp2_with fail
                go_loopg [8, 56] L (fun g s8 s56 wx => ∃ i p : Nat, i ≤ L ∧ g = L - i ∧ s56 = .int .i64 i ∧ s8 = .int .i64 p ∧ p = m + i ∧ wx.rowIs w1.heap.size 73 32 (fun t => if t < p then .int .u8 (D (t % L)) else .int .u8 0) ∧ w1.Since w1.heap.size wx)
                case atStart => exact ⟨0, m, Nat.zero_le _, rfl, rfl, rfl, rfl, hR, hS⟩
                case round =>
                  clear hR hS
                  obtain ⟨i, p, hi, rfl, rfl, rfl, hp, hR, hS⟩ := hrel
                  by_cases hil : i < L
                  · have hiz : (i : Int) < (L : Int) := by omega
                    have hp32 : p < 32 := by omega
                    have HP : Hid (p = m + i) := hp
                    clear hp
                    have t1 : wr.cell? ⟨db', dof' + i, none⟩ = some (.int .u8 (D i)) := by
                      rw [hS.cell (a := ⟨db', dof' + i, none⟩) (World.block_lt_of_cell? _ _ (hrow i hil))]; exact hrow i hil
                    have t2 : wr.cell? ⟨w1.heap.size, p, none⟩ = some (.int .u8 0) := by simpa using hR.cell hp32
                    have t3 : wr.frozen? ⟨w1.heap.size, p, none⟩ = false := hR.frozen p
                    go_wp2_with fail
                    go_roundg (L - (i + 1))
                    case measure => go_light; omega
                    case rel =>
                      go_light
                      refine ⟨i + 1, p + 1, by omega, rfl, by go_num, by go_num, by have := HP.out; omega, (hR.set p _).congr (fun t _ => ?_), hS.setCell (Nat.le_refl _) _⟩
                      by_cases e : t = p
                      · subst e
                        have e2 : t % L = i := by
                          rw [HP.out, Nat.add_mod, HML.out, Nat.zero_add, Nat.mod_mod, Nat.mod_eq_of_lt hil]
                        simp [e2]
                      · rw [if_neg e]
                        by_cases hlt : t < p
                        · rw [if_pos hlt, if_pos (by omega)]
                        · rw [if_neg hlt, if_neg (by omega)]
                  · have hiz : ¬ ((i : Int) < (L : Int)) := by omega
                    obtain rfl : L = i := by omega
                    subst hp
                    go_wp2_with fail
                    go_roundg (32 - (m + L))
                    case measure => go_light; omega
                    case rel => go_light; exact ⟨m + L, by omega, rfl, by go_num, by rw [Nat.add_mod_right]; exact HML.out, hR, hS⟩
              · rw [decide_eq_false hc]
                have hm0 : 0 < m := by omega
                have hsl := buf_slice w1.heap.size m hm wr
                go_wp2_with fail
                go_meet
                go_light
                exact ⟨w1.heap.size, 0, m, 32, rfl, hm0, by omega, hm, HML.out, by omega, fun t ht => by
                  have := hR.cell (i := t) (by omega)
                  simp only [ht, if_true] at this
                  rw [Nat.zero_add]; exact this, hS⟩
        · rw [decide_eq_false hc]
          go_wp2_with fail
          go_meet
          go_light
          refine ⟨db', dof', L, cap', rfl, hLp, hLb, hcap', Nat.mod_self _, hdb', fun t ht => ?_, hW2⟩
          rw [hW2.cell (a := ⟨db', dof' + t, none⟩) (World.block_lt_of_cell? _ _ (hrow t ht)), Nat.mod_eq_of_lt ht]
          exact hrow t ht
      case rest =>
        obtain ⟨cb, co, C, capC, rfl, hC0, hC6, hCc, hCL, hcb, hcyc, hS⟩ := hcut
        clear hW1 hW2 hW3 hW4 W
        have lift : ∀ (p : Addr) (u : Value), w1.cell? p = some u → wc.cell? p = some u := fun p u h => by
          rw [hS.cell (World.block_lt_of_cell? _ _ h)]; exact h
        have k2 := lift _ _ g2
        have k3 := lift _ _ g3
        have k4 := lift _ _ g4
        have k4f : wc.frozen? ⟨gc, 0, none⟩ = false := by rw [hS.frozen (a := ⟨gc, 0, none⟩) (World.block_lt_of_cell? _ _ g4)]; exact g4f
        have krow : ∀ i, i < L → wc.cell? ⟨db', dof' + i, none⟩ = some (.int .u8 (D i)) := fun i hi => lift _ _ (hrow i hi)
        have hBm : Below w.heap.size w wc := hB.trans ⟨hS.os, hS.tape, hS.output, hS.size, fun b hb => hS.block b (by omega)⟩
        clear lift g2 g3 g4 g4f hrow hB hS n2 n3 hw1
        have HCL : Hid (C % L = 0) := hCL
        clear hCL
        rename World => wm
        go_wp2_with (go_at_call 34; refine (bounds_any db' dof' L cap' C D _ hLb hC6 krow hD).mono ?_; rintro e w' ⟨lo, hi, rfl, hw, hbd⟩; have hw2 := hw.symm; clear hw; subst hw2)
        have SAFE := (show Hid _ from fun k h1 h2 t ht => safe_run (start := start) hLp hbd k h1 h2 t ht)
        clear hbd krow k2 k3
        go_loopg [13, 14, 15] 600 (fun g s13 s14 s15 wx => ∃ (k j : Nat) (v left : Int), k < 600 ∧ g = 600 - k ∧ s13 = .int .u8 v ∧ s14 = .int .i64 j ∧ s15 = .int .i64 left ∧ j < C ∧ left ≤ 9223372036854775807 ∧ -9223372036854775808 ≤ left ∧
          Got wm wx gc 5 (row .u8 (V start D L) k) ∧ Stands n 0 255 (V start D L) L k j v left)
        case atStart => exact ⟨0, 0, start, n, by omega, rfl, rfl, rfl, rfl, hC0, hn.2, hn.1, Got.start k4 k4f, .inl ⟨rfl, hs.1, hs.2, upto_zero, rfl, by omega⟩⟩
        case round =>
          clear k4 k4f
          obtain ⟨k, j, v, left, hk, rfl, rfl, rfl, rfl, hj, hl1, hl2, hG, hSt⟩ := hrel
          by_cases h0 : left = 0
          · have hE := hSt.ended h0
            have HE : Hid (EndsAt n 0 255 (V start D L) k) := hE
            clear hE hSt
            subst h0
            go_wp2_with fail
            go_end0
            exact ⟨rfl, k, wm, HE.out, hBm, hG⟩
          · obtain ⟨hv, hvlo, hvhi, hU, hjL, hcnt⟩ := hSt.live h0
            have HV : Hid (V start D L k = v) := hv
            have HU : Hid (Upto n 0 255 (V start D L) k) := hU
            have HJ : Hid (j % L = k % L) := hjL
            have HN : Hid ((n < 0 ∧ left = n) ∨ (0 ≤ n ∧ left = n - k ∧ 0 ≤ left)) := hcnt
            clear hv hU hjL hcnt hSt
            have h0b : (left != 0) = true := by simp [h0]
            go_upto_region 21 with fail
            obtain ⟨R, hR⟩ : ∃ R, C - j = R := ⟨_, rfl⟩
            obtain ⟨cR, hcR⟩ : ∃ R, capC - j = R := ⟨_, rfl⟩
            rw [hR, hcR]
            have hRj : R + j = C := by omega
            have hRc : R ≤ cR := by omega
            have HRJ : Hid (R + j = C) := hRj
            have hR0 : 0 < R := by omega
            have hR6 : R ≤ 65536 := by omega
            clear hR hcR hRj
            go_cut [89] (fun s wx => s = .bool (decide (0 < left ∧ left < (R : Int))) ∧ wr = wx)
            case first =>
              by_cases hlp : 0 < left
              · by_cases hlr : left < (R : Int)
                · go_wp2_with fail
                  go_meet
                  go_light
                  exact ⟨congrArg Value.bool (decide_eq_true ⟨hlp, hlr⟩).symm, rfl⟩
                · go_wp2_with fail
                  go_meet
                  go_light
                  exact ⟨congrArg Value.bool (decide_eq_false (fun h => by omega)).symm, rfl⟩
              · go_wp2_with fail
                go_meet
                go_light
                exact ⟨congrArg Value.bool (decide_eq_false (fun h => by omega)).symm, rfl⟩
            case rest =>
              obtain ⟨rfl, rfl⟩ := hcut
              go_upto_if 89 with fail
              go_cut [16] (fun s16 wx => ∃ r1 c1 : Nat, s16 = .slice (some ⟨cb, co + j, none⟩) r1 c1 ∧ 0 < r1 ∧ r1 ≤ R ∧ r1 ≤ c1 ∧ (0 < left → (r1 : Int) ≤ left) ∧ wr = wx)
              case first =>
                by_cases hc : 0 < left ∧ left < (R : Int)
                · rw [decide_eq_true hc]
                  obtain ⟨ln, rfl⟩ : ∃ ln : Nat, left = (ln : Int) := ⟨left.toNat, by omega⟩
                  have hln : ln ≤ cR := by omega
                  go_wp2_with fail
                  go_meet
                  go_light
                  exact ⟨ln, cR, rfl, by omega, by omega, hln, fun _ => Int.le_refl _, rfl⟩
                · rw [decide_eq_false hc]
                  go_wp2_with fail
                  go_meet
                  go_light
                  exact ⟨R, cR, rfl, hR0, Nat.le_refl _, hRc, fun h => by omega, rfl⟩
              case rest =>
                obtain ⟨r1, c1, rfl, hr0, hrR, hrc, hrl, rfl⟩ := hcut
                go_upto_region 23 with fail
                go_cut [100] (fun s wx => s = .bool (decide (v < lo ∨ hi < v)) ∧ wr = wx)
                case first =>
                  by_cases hv1 : v < lo
                  · go_wp2_with fail
                    go_meet
                    go_light
                    exact ⟨congrArg Value.bool (decide_eq_true (.inl hv1)).symm, rfl⟩
                  · by_cases hv2 : hi < v
                    · go_wp2_with fail
                      go_meet
                      go_light
                      exact ⟨congrArg Value.bool (decide_eq_true (.inr hv2)).symm, rfl⟩
                    · go_wp2_with fail
                      go_meet
                      go_light
                      exact ⟨congrArg Value.bool (decide_eq_false (fun h => by omega)).symm, rfl⟩
                case rest =>
                  obtain ⟨rfl, rfl⟩ := hcut
                  go_upto_if 100 with fail
                  go_cut [15, 16, 17] (fun s15 s16 _ wx => ∃ (r2 c2 : Nat) (left' : Int), s15 = .int .i64 left' ∧ s16 = .slice (some ⟨cb, co + j, none⟩) r2 c2 ∧ 0 < r2 ∧ r2 ≤ R ∧ r2 ≤ c2 ∧ (∀ t, t < r2 → 0 ≤ V start D L (k + t) ∧ V start D L (k + t) ≤ 255) ∧ (0 < left → (r2 : Int) ≤ left) ∧
                    ((left' = left ∧ 0 ≤ V start D L (k + r2) ∧ V start D L (k + r2) ≤ 255) ∨ (left' = 1 ∧ r2 = 1 ∧ ¬ (0 ≤ V start D L (k + 1) ∧ V start D L (k + 1) ≤ 255))) ∧ wr = wx)
                  case first =>
                    by_cases hc : v < lo ∨ hi < v
                    · rw [decide_eq_true hc]
                      obtain ⟨d, hd⟩ : ∃ d, D (k % L) = d := ⟨_, rfl⟩
                      have hdr := hD (k % L) (Nat.mod_lt _ hLp)
                      rw [hd] at hdr
                      have t1 : wr.cell? ⟨cb, co + j, none⟩ = some (.int .u8 d) := hG.cell (by rw [hcyc j hj, HJ.out, hd]) hcb
                      have HV1 : Hid (V start D L (k + 1) = v + d) := by
                        show V start D L k + D (k % L) = _
                        rw [HV.out, hd]
                      clear hd
                      have h1c : 1 ≤ c1 := by omega
                      have hone : ∀ t, t < 1 → 0 ≤ V start D L (k + t) ∧ V start D L (k + t) ≤ 255 := fun t ht => by
                        obtain rfl : t = 0 := by omega
                        rw [Nat.add_zero, HV.out]; exact ⟨hvlo, hvhi⟩
                      have HONE := (show Hid _ from hone)
                      clear hone
                      by_cases hov : v + d < 0 ∨ 255 < v + d
                      · go_wp2_with (first | (go_at_call 35; refine (before_is _ v d (by first | rfl | (rw [wrap_k]; omega)) ⟨hvlo, hvhi⟩ hdr _).mono ?_; rw [decide_eq_true hov]; rintro e w' ⟨rfl, hw⟩; have hw2 := hw.symm; clear hw; subst hw2) | (go_at_call 36; refine (finite_any _ _).mono ?_; rintro e w' ⟨rfl, hw⟩; have hw2 := hw.symm; clear hw; subst hw2))
                        go_meet
                        go_light
                        exact ⟨1, c1, 1, rfl, rfl, by omega, by omega, h1c, HONE.out, fun h => by omega, .inr ⟨rfl, rfl, by rw [HV1.out]; omega⟩, rfl⟩
                      · go_wp2_with (first | (go_at_call 35; refine (before_is _ v d (by first | rfl | (rw [wrap_k]; omega)) ⟨hvlo, hvhi⟩ hdr _).mono ?_; rw [decide_eq_false hov]; rintro e w' ⟨rfl, hw⟩; have hw2 := hw.symm; clear hw; subst hw2) | (go_at_call 36; refine (finite_any _ _).mono ?_; rintro e w' ⟨rfl, hw⟩; have hw2 := hw.symm; clear hw; subst hw2))
                        go_meet
                        go_light
                        exact ⟨1, c1, left, rfl, rfl, by omega, by omega, h1c, HONE.out, fun h => by omega, .inl ⟨rfl, by rw [HV1.out]; omega⟩, rfl⟩
                    · rw [decide_eq_false hc]
                      go_wp2_with fail
                      go_meet
                      go_light
                      have hsafe := SAFE.out k (by rw [HV.out]; omega) (by rw [HV.out]; omega)
                      exact ⟨r1, c1, left, rfl, rfl, hr0, hrR, hrc, fun t ht => hsafe t (by have := HRJ.out; omega), hrl, .inl ⟨rfl, hsafe r1 (by have := HRJ.out; omega)⟩, rfl⟩
                  case rest =>
                    obtain ⟨r2, c2, left', rfl, rfl, hr20, hr2R, hr2c, hin, hr2l, hfate, rfl⟩ := hcut
                    clear hr0 hrR hrc hrl r1 c1 h0b
                    have HIN := (show Hid _ from hin)
                    have HF := (show Hid _ from hfate)
                    have hl3 : left' ≤ 9223372036854775807 := by omega
                    have hl4 : -9223372036854775808 ≤ left' := by omega
                    have hl0 : left' ≠ 0 := by omega
                    have up : ∀ t, t ≤ r2 → k + t ≤ 600 → Upto n 0 255 (V start D L) (k + t) := fun t ht h6 i hi => by
                      by_cases hik : i < k
                      · exact HU.out i hik
                      · obtain ⟨s, rfl⟩ : ∃ s, i = k + s := ⟨i - k, by omega⟩
                        refine ⟨by omega, ?_, hin s (by omega)⟩
                        have := HN.out
                        omega
                    have UP := (show Hid _ from up)
                    have step : ∀ (j' : Nat) (left2 : Int), k + r2 < 600 → j' % L = (k + r2) % L → left2 = (if 0 < left' then left' - r2 else left') → Stands n 0 255 (V start D L) L (k + r2) j' (IntKind.u8.wrap (V start D L (k + r2))) left2 := by
                      intro j' left2 h6 hj' hle
                      rcases hfate with ⟨rfl, ha, hb⟩ | ⟨rfl, rfl, hne⟩
                      · refine .inl ⟨by rw [wrap_k]; omega, by rw [wrap_k]; omega, by rw [wrap_k]; omega, up r2 (Nat.le_refl _) (by omega), hj', ?_⟩
                        have := HN.out
                        split at hle <;> omega
                      · refine .inr ⟨by rw [hle]; rfl, up 1 (Nat.le_refl _) (by omega), fun hf => hne hf.2.2⟩
                    have STEP := (show Hid _ from step)
                    clear hin hfate up step
                    go_wp2_with fail
                    go_loopg [13, 121] r2 (fun g s13 s121 wx => ∃ t : Nat, t ≤ r2 ∧ g = r2 - t ∧ s121 = .int .i64 t ∧ s13 = .int .u8 (IntKind.u8.wrap (V start D L (k + t))) ∧ Got wm wx gc 5 (row .u8 (V start D L) (k + t)) ∧ k + t < 600)
                    case atStart => exact ⟨0, Nat.zero_le _, rfl, rfl, by rw [Nat.add_zero, HV.out, wrap_k]; congr 1; omega, hG, hk⟩
                    case round =>
                      clear hG
                      obtain ⟨t, ht, rfl, rfl, rfl, hG, hkt⟩ := hrel
                      by_cases htl : t < r2
                      · have htz : (t : Int) < (r2 : Int) := by omega
                        have hin := HIN.out t htl
                        have ew : IntKind.u8.wrap (V start D L (k + t)) = V start D L (k + t) := by rw [wrap_k]; omega
                        rw [ew]
                        clear ew
                        obtain ⟨x, hx⟩ : ∃ x, V start D L (k + t) = x := ⟨_, rfl⟩
                        obtain ⟨d, hd⟩ : ∃ d, D ((k + t) % L) = d := ⟨_, rfl⟩
                        have hdr := hD ((k + t) % L) (Nat.mod_lt _ hLp)
                        have t1 : wr.cell? ⟨cb, co + (j + t), none⟩ = some (.int .u8 d) := hG.cell (by
                          rw [hcyc (j + t) (by have := HRJ.out; omega), Nat.add_mod, HJ.out, ← Nat.add_mod, hd]) hcb
                        have HX1 : Hid (V start D L (k + t + 1) = x + d) := by
                          show V start D L (k + t) + D ((k + t) % L) = _
                          rw [hx, hd]
                        rw [hd] at hdr
                        rw [hx] at hin ⊢
                        have HX : Hid (V start D L (k + t) = x) := hx
                        clear hd hx
                        have t1' : wr.cell? ⟨cb, co + j + t, none⟩ = some (.int .u8 d) := by rw [Nat.add_assoc]; exact t1
                        clear t1
                        have hy := yield_any x gc _ wm wr hG (by rw [row_length]; exact hkt)
                        rw [row_length, ← HX.out, row_succ, HX.out] at hy
                        by_cases hlast : k + t + 1 < 600
                        · rw [decide_eq_true hlast] at hy
                          go_wp2_with (go_at_call 14; refine hy.mono ?_; rintro e w' ⟨rfl, hG'⟩)
                          go_roundg (r2 - (t + 1))
                          case measure => go_light; omega
                          case rel => go_light; exact ⟨t + 1, by omega, rfl, by go_num, by rw [← Nat.add_assoc, HX1.out, wrap_k], hG', by omega⟩
                        · rw [decide_eq_false hlast] at hy
                          have HE : Hid (EndsAt n 0 255 (V start D L) (k + t + 1)) := ⟨UP.out (t + 1) (by omega) (by omega), fun hf => hlast hf.1⟩
                          go_wp2_with (go_at_call 14; refine hy.mono ?_; rintro e w' ⟨rfl, hG'⟩)
                          (try simp only [Exit.inBlock, Exit.then])
                          refine bodyPost_ret (results_none rfl _ _ _) rfl ?_
                          exact ⟨rfl, k + t + 1, wm, HE.out, hBm, hG'⟩
                      · have htz : ¬ ((t : Int) < (r2 : Int)) := by omega
                        obtain rfl : r2 = t := by omega
                        have hje : (j + r2) % L = (k + r2) % L := by rw [Nat.add_mod, HJ.out, ← Nat.add_mod]
                        have HJE := (show Hid _ from hje)
                        clear hje
                        by_cases hlp : 0 < left'
                        · by_cases hjC : j + r2 = C
                          · have hjz : ((j : Int) + (r2 : Int) == (C : Int)) = true := by rw [beq_iff_eq]; omega
                            have hst := STEP.out 0 (left' - r2) hkt (by rw [← HJE.out, hjC, HCL.out, Nat.zero_mod]) (by rw [if_pos hlp])
                            have HST := (show Hid _ from hst)
                            clear hst hjC
                            go_wp2_with fail
                            go_roundg (600 - (k + r2))
                            case measure => go_light; omega
                            case rel => go_light; exact ⟨k + r2, 0, _, left' - r2, hkt, rfl, rfl, rfl, rfl, hC0, by omega, by omega, hG, HST.out⟩
                          · have hjz : ((j : Int) + (r2 : Int) == (C : Int)) = false := by rw [beq_eq_false_iff_ne]; omega
                            have hst := STEP.out (j + r2) (left' - r2) hkt HJE.out (by rw [if_pos hlp])
                            have HST := (show Hid _ from hst)
                            have hjlt : j + r2 < C := by have := HRJ.out; omega
                            clear hst hjC
                            go_wp2_with fail
                            go_roundg (600 - (k + r2))
                            case measure => go_light; omega
                            case rel => go_light; exact ⟨k + r2, j + r2, _, left' - r2, hkt, rfl, rfl, by go_num, rfl, hjlt, by omega, by omega, hG, HST.out⟩
                        · by_cases hjC : j + r2 = C
                          · have hjz : ((j : Int) + (r2 : Int) == (C : Int)) = true := by rw [beq_iff_eq]; omega
                            have hst := STEP.out 0 left' hkt (by rw [← HJE.out, hjC, HCL.out, Nat.zero_mod]) (by rw [if_neg hlp])
                            have HST := (show Hid _ from hst)
                            clear hst hjC
                            go_wp2_with fail
                            go_roundg (600 - (k + r2))
                            case measure => go_light; omega
                            case rel => go_light; exact ⟨k + r2, 0, _, left', hkt, rfl, rfl, rfl, rfl, hC0, by omega, by omega, hG, HST.out⟩
                          · have hjz : ((j : Int) + (r2 : Int) == (C : Int)) = false := by rw [beq_eq_false_iff_ne]; omega
                            have hst := STEP.out (j + r2) left' hkt HJE.out (by rw [if_neg hlp])
                            have HST := (show Hid _ from hst)
                            have hjlt : j + r2 < C := by have := HRJ.out; omega
                            clear hst hjC
                            go_wp2_with fail
                            go_roundg (600 - (k + r2))
                            case measure => go_light; omega
                            case rel => go_light; exact ⟨k + r2, j + r2, _, left', hkt, rfl, rfl, by go_num, rfl, hjlt, by omega, by omega, hG, HST.out⟩

end Go.Proofs.Ybulkdloo.U
