/-
  The walk of (*bufio.Reader).Read into a chunk of seven bytes.
-/
import Derived.Test.YbulkdlooDoorFns
namespace Go.Proofs.YbulkdlooDoor.A
open Go Go.RowKit Go.Deep Go.Proofs.YbulkdlooDoor.Lib

theorem st_read {W w2 w' : World} {sb bb rb cb hb n : Nat} {Z : Nat → Int} {off c r v lo hi base k d : Nat} {er : Value} {G : Nat → Value} (hS : St W sb bb rb cb hb n Z off c r v er lo hi base) (hA : Ap sb bb rb cb hb)
    (hw : w' = (w2.setCell ⟨sb, 1, none⟩ (.int .i64 ((off : Int) + k))).drewN d) (hr : w2.rowIs cb 5 4096 (fun j => if j < k then .int .u8 (Z (off + j)) else G j)) (hg : (W.setCell ⟨sb, 2, none⟩ (.int .i64 ((c : Int) + 1))).grownBy w2 (some cb)) (hs : w2.heap.size = W.heap.size) :
    St w' sb bb rb cb hb n Z (off + k) (c + 1) r v er 0 k off ∧ Kept W w' sb rb cb hb := by
  have h1 := hS.setC hA (c + 1)
  have h2 := h1.fill hA (lo' := 0) (hi' := k) (base' := off) hr hg (fun j _ hj => if_pos hj)
  have h3 := (h2.setOff hA (off + k)).drewN d
  have hk := ((((Kept.refl W sb rb cb hb).set (p := ⟨sb, 2, none⟩) (by simp) (.int .i64 ((c : Int) + 1))).grown hg (by rw [hs, nblk_setCell]) (by simp)).set (p := ⟨sb, 1, none⟩) (by simp) (.int .i64 ((off : Int) + k))).drewN d
  rw [hw]
  exact ⟨h3, hk⟩

theorem method_read (a : Addr) (w : World) : (method 177 23 (.pointer (some a)) "Read").run Ybad.prog w = .ok (27, .pointer (some a)) w := by kernel_rfl

set_option maxHeartbeats 1600000 in
set_option maxRecDepth 1000000 in
theorem read_any (sb bb rb cb hb n : Nat) (Z : Nat → Int) (o off r v c : Nat) (te : TypeId) (ea : Addr) (w : World) (hS : St w sb bb rb cb hb n Z off c r v .nilIface r v (off - v)) (hN : Num n o off c r v) (hA : Ap sb bb rb cb hb) (hn : n ≤ 1048576)
    (hg : w.cell? ⟨0, 0, none⟩ = some (.iface te (.pointer (some ea)))) (hz : 0 < sb ∧ 0 < rb ∧ 0 < cb ∧ 0 < hb) :
    Calls Ybad.prog 7 #[.pointer (some ⟨rb, 0, none⟩), .slice (some ⟨hb, 0, none⟩) 7 7] w fun e w' => Kept w w' sb rb cb hb ∧
      ((o = n ∧ e = .returned (.tuple #[.int .i64 0, .iface te (.pointer (some ea))])) ∨
       ∃ k off' r' v' c', 1 ≤ k ∧ k ≤ 7 ∧ o + k ≤ n ∧ e = .returned (.tuple #[.int .i64 k, .nilIface]) ∧ St w' sb bb rb cb hb n Z off' c' r' v' .nilIface r' v' (off' - v') ∧ Num n (o + k) off' c' r' v' ∧ ∀ j, j < k → w'.cell? ⟨hb, j, none⟩ = some (.int .u8 (Z (o + j)))) := by
  have t2 := hS.r2
  have t3 := hS.r3
  go_enter Ybad.func7, Ybad.ntmps7
  go_wp2_with fail
  go_quiet (fail)
  go_upto_if 23 with fail
  clear t2 t3
  go_cut [4, 5] (fun s4 s5 wx => (∃ x : Int, s4 = .int .i64 x) ∧ s5 = .nilIface ∧ Kept w wx sb rb cb hb ∧ ∃ off' r' v' c', r' < v' ∧ Num n o off' c' r' v' ∧ St wx sb bb rb cb hb n Z off' c' r' v' .nilIface r' v' (off' - v'))
  case first =>
    by_cases hrv : r = v
    · have hrvz : ((r : Int) == (v : Int)) = true := by rw [beq_iff_eq]; omega
      rw [hrvz]
      have t0 := hS.r0
      have t1 := hS.r1
      have t2 := hS.r2
      have t3 := hS.r3
      have t4 := hS.r4
      have f2 := hS.rf 2
      have f3 := hS.rf 3
      have f4 := hS.rf 4
      go_upto_region 19 with fail
      have hS1 : St (((w.drewN nq).setCell ⟨rb, 2, none⟩ (.int .i64 0)).setCell ⟨rb, 3, none⟩ (.int .i64 0)) sb bb rb cb hb n Z off c 0 0 .nilIface 0 0 0 := (((hS.drewN nq).setR hA 0).setV hA 0).narrow (fun j _ h => absurd h (Nat.not_lt_zero _))
      have hK1 : Kept w (((w.drewN nq).setCell ⟨rb, 2, none⟩ (.int .i64 0)).setCell ⟨rb, 3, none⟩ (.int .i64 0)) sb rb cb hb := (((Kept.refl _ _ _ _ _).drewN _).set (by simp) _).set (by simp) _
      generalize ((w.drewN nq).setCell ⟨rb, 2, none⟩ (.int .i64 0)).setCell ⟨rb, 3, none⟩ (.int .i64 0) = W at hS1 hK1 ⊢
      clear t0 t1 t2 t3 t4 f2 f3 f4
      have t0 := hS1.r0
      have t1 := hS1.r1
      have t2 := hS1.r2
      have t3 := hS1.r3
      have t4 := hS1.r4
      have f2 := hS1.rf 2
      have f3 := hS1.rf 3
      have f4 := hS1.rf 4
      by_cases hoff : off < n
      · go_cut [4] (fun s4 wx => ∃ k, 1 ≤ k ∧ k ≤ 4096 ∧ off + k ≤ n ∧ s4 = .int .i64 k ∧ Kept w wx sb rb cb hb ∧ St wx sb bb rb cb hb n Z (off + k) (c + 1) 0 0 .nilIface 0 k off)
        case first =>
          obtain ⟨G, hG, _⟩ := hS1.cr
          have hm := method_read
          have hcc := hN.cc
          have hoo := hN.oo
          go_region_with (go_at_call 27; refine (srcRead_some sb bb cb n off c 4096 Z G _ (by exact hS1.s0) (by exact hS1.s1) (by exact hS1.s2) (by exact hS1.sf 1) (by exact hS1.sf 2) (by omega) hn hoff (by omega) (by exact hS1.b0) (by exact hG) hA.a1 hA.a3 hA.a6).mono ?_; rintro e w' ⟨k, d, w2, hk, rfl, hw', hr2, hg2, hs2⟩; have hQ := st_read (W := W.drewN 1) (hS1.drewN 1) hA hw' hr2 hg2 hs2; have HK : Hid (k = Nat.min (n - off) 4096) := hk; clear hw' hr2 hg2 hs2 hk w2; obtain ⟨hS2, hK2⟩ := hQ; have q4 := hS2.r4; have qf := hS2.rf 4)
          all_goals
            (go_wp2_with fail
             go_meet
             go_light
             have hk := HK.out
             have k1 : k ≤ n - off := by rw [hk]; exact Nat.min_le_left _ _
             have k2 : k ≤ 4096 := by rw [hk]; exact Nat.min_le_right _ _
             have k3 : 1 ≤ k := by rw [hk]; exact Nat.le_min.2 ⟨by omega, by omega⟩
             exact ⟨k, k3, k2, by omega, rfl, ((hK1.drewN 1).trans hK2).set (by simp) _, hS2.setE hA _⟩)
        case rest =>
          obtain ⟨k, k3, k2, kn, rfl, hK3, hS3⟩ := hcut
          have u3 := hS3.r3
          have uf := hS3.rf 3
          have kz : ¬ ((k : Int) < 0) := by omega
          have kz2 : ((k : Int) == 0) = false := by rw [beq_eq_false_iff_ne]; omega
          go_wp2_with fail
          go_meet
          go_light
          have hoo := hN.oo
          have hcc := hN.cc
          refine ⟨⟨_, rfl⟩, rfl, hK3.set (by simp) _, off + k, 0, k, c + 1, by omega, ⟨by omega, by omega, by omega, by omega, by omega, by omega⟩, ?_⟩
          have := (hS3.setV hA k).narrow (lo' := 0) (hi' := k) (base' := off + k - k) (fun j _ h => ⟨by omega, h, by omega⟩)
          first | exact this | simpa using this
      · have hoo := hN.oo
        have hon := hN.on
        have hoff' : off = n := by omega
        have hcc := hN.cc
        have hm := method_read
        have hgW : W.cell? ⟨0, 0, none⟩ = some (.iface te (.pointer (some ea))) := by rw [hK1.cell (p := ⟨0, 0, none⟩) (by simp; omega) (by simp; omega) (by simp; omega) (by simp; omega)]; exact hg
        have hs1 : W.cell? ⟨sb, 1, none⟩ = some (.int .i64 n) := by rw [hS1.s1, hoff']
        clear hoff'
        go_region_with (go_at_call 27; refine (srcRead_eof sb bb n c te ea _ _ _ _ (by exact hS1.s0) (by exact hs1) (by exact hS1.s2) (by exact hS1.sf 2) (by omega) (by exact hgW)).mono ?_; rintro e w' ⟨d, rfl, hw'⟩; have hS2 := ((hS1.drewN 1).setC hA (c + 1)).drewN d; have hK2 : Kept w w' sb rb cb hb := (by rw [hw']; exact (((hK1.drewN 1).set (by simp) _).drewN d)); have q4 : w'.cell? ⟨rb, 4, none⟩ = some .nilIface := (by rw [hw']; exact hS2.r4); have qf : w'.frozen? ⟨rb, 4, none⟩ = false := (by rw [hw']; exact hS2.rf 4); clear hw' hS2)
        all_goals
          (go_wp2_with fail
           refine (readErr_any rb te ea _ ?_ ?_).mono ?_
           · exact World.cell?_setCell_same _ _ _ q4
           · simpa using qf
           rintro e w3 ⟨rfl, hw3⟩
           have hK3 : Kept w w3 sb rb cb hb := by rw [hw3]; exact (hK2.set (by simp) _).set (by simp) _
           clear hw3
           go_wp2_with fail
           go_ret2
           exact ⟨hK3, .inl ⟨by omega, rfl⟩⟩)
    · have hrvz : ((r : Int) == (v : Int)) = false := by rw [beq_eq_false_iff_ne]; omega
      rw [hrvz]
      go_wp2_with fail
      go_meet
      go_light
      exact ⟨⟨_, rfl⟩, rfl, (Kept.refl _ _ _ _ _).drewN _, off, r, v, c, by have := hN.rv; omega, hN, hS.drewN _⟩
  case rest =>
    obtain ⟨⟨x, rfl⟩, rfl, hK, off', r', v', c', hlt, hN', hS'⟩ := hcut
    clear hS hN
    obtain ⟨k, hk⟩ : ∃ k, k = Nat.min (v' - r') 7 := ⟨_, rfl⟩
    have k1 : k ≤ v' - r' := by rw [hk]; exact Nat.min_le_left _ _
    have k2 : k ≤ 7 := by rw [hk]; exact Nat.min_le_right _ _
    have k3 : 1 ≤ k := by rw [hk]; exact Nat.le_min.2 ⟨by omega, by omega⟩
    have n4 := hN'.v4
    have nvo := hN'.vo
    have non := hN'.on
    have noo := hN'.oo
    have ncc := hN'.cc
    obtain ⟨G, hG, hGz⟩ := hS'.cr
    obtain ⟨H, hH⟩ := hS'.hr
    obtain ⟨w2, hcopy, hr2, hg2, hs2⟩ := run_copy_rows (P := Ybad.prog) wc 22 22 3 5 Ybad.underlying22 info5s hb 0 7 7 7 H hH ⟨cb, r', none⟩ (v' - r') (4096 - r') k (fun j => .int .u8 (Z (off' - v' + r' + j))) hk
      (fun j hj => by rw [Addr.add_lit, hG.cell (by omega), hGz (r' + j) (by omega) (by omega), Nat.add_assoc]) (fun _ _ => rfl) (by omega)
    have hS2 := hS'.chunk hA hr2 hg2
    have hK2 := hK.grown hg2 hs2 (by simp)
    have HK : Hid (k = Nat.min (v' - r') 7) := hk
    have t0 := hS'.r0
    have t2 := hS'.r2
    have t3 := hS'.r3
    have u0 := hS2.r0
    have u2 := hS2.r2
    have uf2 := hS2.rf 2
    clear hk hG hH
    have hr4 : ¬ r' = 4096 := by omega
    have hcopy1 : (Builtin.copy_ #[22, 22] 3 #[.slice (some ⟨hb, 0, none⟩) 7 7, .slice (some ⟨cb, r', none⟩) (v' - r') (4096 - r')]).run Ybad.prog wc.drew = .ok (.int .i64 (k : Int)) w2.drew := hcopy 1
    clear hcopy
    go_wp2_with fail
    go_big_region
    go_wp2_with fail
    have hS3 : St (w2.setCell ⟨rb, 2, none⟩ (.int .i64 ((r' : Int) + k))).drew sb bb rb cb hb n Z off' c' (r' + k) v' .nilIface r' v' (off' - v') := (hS2.setR hA (r' + k)).drewN 1
    have hK3 : Kept w (w2.setCell ⟨rb, 2, none⟩ (.int .i64 ((r' : Int) + k))).drew sb rb cb hb := (hK2.set (by simp) _).drewN 1
    have hH3 : (w2.setCell ⟨rb, 2, none⟩ (.int .i64 ((r' : Int) + k))).drew.rowIs hb 5 7 (fun j => if 0 ≤ j ∧ j < 0 + k then .int .u8 (Z (off' - v' + r' + (j - 0))) else H j) := hr2.setOther (by show hb ≠ rb; have := hA.a9; omega) _
    generalize (w2.setCell ⟨rb, 2, none⟩ (.int .i64 ((r' : Int) + k))).drew = W at hS3 hK3 hH3 ⊢
    clear t0 t2 t3 u0 u2 uf2 hcopy1 hS2 hK2 hr2 hg2 hs2
    obtain ⟨G3, hG3, hGz3⟩ := hS3.cr
    obtain ⟨x5, p5⟩ := hS3.r5
    obtain ⟨x6, p6⟩ := hS3.r6
    have p0 := hS3.r0
    have p2 := hS3.r2
    have pf5 := hS3.rf 5
    have pf6 := hS3.rf 6
    have pc : W.cell? ⟨cb, r' + k - 1, none⟩ = some (.int .u8 (Z (off' - v' + (r' + k - 1)))) := by rw [hG3.cell (by omega), hGz3 _ (by omega) (by omega)]
    go_big_region
    go_wp2_with fail
    go_ret2
    have hb' := hA.a9
    refine ⟨((hK3.set (by simp) _).set (by simp) _).drewN 1, .inr ⟨k, off', r' + k, v', c', k3, k2, by omega, rfl, ((((hS3.set5 hA _).set6 hA _).drewN 1).narrow (fun j h1 h2 => ⟨by omega, h2, rfl⟩)), ⟨by omega, n4, nvo, non, by omega, ncc⟩, fun j hj => ?_⟩⟩
    have hcell : ∀ x y : Value, ((W.setCell ⟨rb, 5, none⟩ x).setCell ⟨rb, 6, none⟩ y).cell? ⟨hb, j, none⟩ = some (.int .u8 (Z (off' - v' + r' + (j - 0)))) := fun x y => by
      have hrow := ((hH3.setOther (a := ⟨rb, 5, none⟩) (by show hb ≠ rb; omega) x).setOther (a := ⟨rb, 6, none⟩) (by show hb ≠ rb; omega) y).cell (i := j) (by omega)
      rw [if_pos ⟨Nat.zero_le _, by omega⟩] at hrow
      exact hrow
    rw [show o + j = off' - v' + r' + (j - 0) by omega]
    exact hcell _ _
end Go.Proofs.YbulkdlooDoor.A
