/-
  Law BUnsigned: the walk.
-/
import Derived.Test.YbulkdlooUSeq
namespace Go.Proofs.Ybulkdloo.U
open Go Go.RowKit Go.Deep Go.Proofs.Ybulkdloo.BP

theorem below_le {B B' : Nat} {w w' : World} (h : Below B w w') (hle : B' ≤ B) : Below B' w w' := ⟨h.os, h.tape, h.output, h.size, fun k hk => h.block k (by omega)⟩
theorem below_cell {B : Nat} {w w' : World} (h : Below B w w') {p : Addr} {v : Value} (hp : w.cell? p = some v) (hB : p.block < B) : w'.cell? p = some v := by
  rw [World.cell?_of_block (w := w) (h.block p.block hB)]; exact hp

/-- The four new cells: the slice that grows, and stepping's three boxes. -/
theorem boxes (w2 : World) (G : Nat) (hG : w2.heap.size = G) (v0 v1 v2 v3 : Value) (t0 t1 t2 t3 : TypeId) (W : World)
    (hW : W = (((w2.alloc (.cells #[v0] t0)).alloc (.cells #[v1] t1)).alloc (.cells #[v2] t2)).alloc (.cells #[v3] t3)) :
    W.heap.size = G + 4 ∧ W.cell? ⟨G, 0, none⟩ = some v0 ∧ W.frozen? ⟨G, 0, none⟩ = false ∧ W.cell? ⟨G + 1, 0, none⟩ = some v1 ∧ W.cell? ⟨G + 2, 0, none⟩ = some v2 ∧ W.cell? ⟨G + 3, 0, none⟩ = some v3 ∧ Below w2.heap.size w2 W := by
  subst hG
  subst hW
  refine ⟨by simp, ?_, ?_, ?_, ?_, ?_, ?_⟩
  · rw [C.cell_old _ _ (by simp <;> omega), C.cell_old _ _ (by simp <;> omega), C.cell_old _ _ (by simp <;> omega)]; exact C.cell_new _ _ _ rfl
  · rw [C.frozen_old _ _ (by simp <;> omega), C.frozen_old _ _ (by simp <;> omega), C.frozen_old _ _ (by simp <;> omega)]; exact C.frozen_new _ _ _ rfl
  · rw [C.cell_old _ _ (by simp <;> omega), C.cell_old _ _ (by simp <;> omega)]; exact C.cell_new _ _ _ (by simp)
  · rw [C.cell_old _ _ (by simp <;> omega)]; exact C.cell_new _ _ _ (by simp)
  · exact C.cell_new _ _ _ (by simp)
  · exact ((((Below.refl _ _).alloc (Nat.le_refl _) _).alloc (by simp) _).alloc (by simp; omega) _).alloc (by simp; omega) _

set_option maxHeartbeats 4000000 in
set_option maxRecDepth 1000000 in
theorem law (n start : Int) (a : Option Addr) (len cap db dof : Nat) (Z : Nat → Int) (w : World) (hn : -9223372036854775808 ≤ n ∧ n ≤ 9223372036854775807) (hs : 0 ≤ start ∧ start ≤ 255) (hlc : len ≤ cap) (hnil : a = none → cap = 0)
    (hdata : ∀ i, i < len → a = some ⟨db, dof, none⟩ ∧ w.cell? ⟨db, dof + i, none⟩ = some (.int .u8 (Z i))) (hZ : ∀ i, i < len → 0 ≤ Z i ∧ Z i ≤ 255) (hlen : len ≤ 9223372036854775807) :
    Calls Yba.prog 4 #[.int .i64 n, .int .u8 start, .slice a len cap] w fun e w' => e = .returned (.bool true) ∧ Below w.heap.size w w' := by
  by_cases hbig : 65536 < len
  · have hz : (65536 : Int) < (len : Int) := by omega
    go_enter Yba.func4, Yba.ntmps4
    go_wp2
    go_ret
    exact ⟨rfl, Below.refl _ _⟩
  have hz : ¬ ((65536 : Int) < (len : Int)) := by omega
  have hl6 : len ≤ 65536 := by omega
  have hmk := run_make_row' (P := Yba.prog) 25 3 (.int .i64 0) 8 Yba.underlying25 info3 rfl .i64 .i64 len (by omega) (by omega)
  go_enter Yba.func4, Yba.ntmps4
  go_wp2_with (go_at_call 12; refine (clone_any a len cap db dof Z _ hl6 hnil hdata).mono ?_; rintro e w1 ⟨a', cp, rfl, hB1, hcl⟩)
  clear hmk
  have hd1 : ∀ i, i < len → a = some ⟨db, dof, none⟩ ∧ w1.cell? ⟨db, dof + i, none⟩ = some (.int .u8 (Z i)) := fun i hi => ⟨(hdata i hi).1, below_cell hB1 (hdata i hi).2 (World.block_lt_of_cell? _ _ (hdata i hi).2)⟩
  have hs1 : w.heap.size ≤ w1.heap.size := hB1.size
  go_loopg [9] len (fun g s9 wr => ∃ (i : Nat), i ≤ len ∧ g = len - i ∧ s9 = .int .i64 i ∧ w1.Since w1.heap.size wr ∧ wr.heap.size = w1.heap.size + 1 ∧ wr.rowIs w1.heap.size 3 len (fun j => if j < i then .int .i64 (Z j) else .int .i64 0))
  case atStart => exact ⟨0, Nat.zero_le _, rfl, rfl, (World.Since.refl _ _).alloc (Nat.le_refl _) _, by simp, (World.rowIs_made w1 _ len 3).congr (fun j _ => by simp)⟩
  case round =>
    obtain ⟨i, hi, rfl, rfl, hS, hsz, hR⟩ := hrel
    by_cases hil : i < len
    · have hiz : (i : Int) < (len : Int) := by omega
      obtain ⟨ha, t1⟩ := hd1 i hil
      have hzi := hZ i hil
      subst ha
      have t2 : wr.cell? ⟨db, dof + i, none⟩ = some (.int .u8 (Z i)) := by rw [hS.cell (a := ⟨db, dof + i, none⟩) (World.block_lt_of_cell? _ _ t1)]; exact t1
      have t3 : wr.cell? ⟨w1.heap.size, i, none⟩ = some (.int .i64 0) := by simpa using hR.cell hil
      have t4 : wr.frozen? ⟨w1.heap.size, i, none⟩ = false := hR.frozen i
      clear hd1 hdata hcl hB1 t1
      go_wp2_with fail
      go_roundg (len - (i + 1))
      case measure => go_light; omega
      case rel =>
        go_light
        refine ⟨i + 1, by omega, rfl, by go_num, hS.setCell (Nat.le_refl _) _, by rw [nblk_setCell, hsz], (hR.set i _).congr (fun j _ => ?_)⟩
        by_cases e : j = i
        · subst e; simp
        · rw [if_neg e]
          by_cases hlt : j < i
          · rw [if_pos hlt, if_pos (by omega)]
          · rw [if_neg hlt, if_neg (by omega)]
    · have hiz : ¬ ((i : Int) < (len : Int)) := by omega
      obtain rfl : len = i := by omega
      obtain ⟨L, D, hL, hDZ, hDr⟩ : ∃ (L : Nat) (D : Nat → Int), ((0 < len ∧ L = len) ∨ (len = 0 ∧ L = 1 ∧ D 0 = 1)) ∧ (∀ i, i < len → D i = Z i) ∧ (∀ i, i < L → 0 ≤ D i ∧ D i ≤ 255) := by
        rcases Nat.eq_zero_or_pos len with h | h
        · exact ⟨1, fun _ => 1, .inr ⟨h, rfl, rfl⟩, fun i hi => by omega, fun i _ => ⟨by show (0 : Int) ≤ 1; omega, by show (1 : Int) ≤ 255; omega⟩⟩
        · exact ⟨len, Z, .inl ⟨h, rfl⟩, fun _ _ => rfl, hZ⟩
      have hR' : ∀ j, j < len → wr.cell? ⟨w1.heap.size, j, none⟩ = some (.int .i64 (D j)) := fun j hj => by rw [hDZ j hj]; simpa [hj] using hR.cell hj
      have hm := model_any n start w1.heap.size len L D wr hl6 hs hL hR' hDr
      clear hR hR' hiz hil
      go_wp2_with (go_at_call 8; refine hm.mono ?_; rintro e w2 ⟨am, K, ⟨capm, rfl⟩, hB2, hE2, hrow2⟩)
      refine (stepping_any n start a len cap _).mono ?_
      rintro e w4 ⟨rfl, hw4⟩
      obtain ⟨G, hG⟩ : ∃ G, w2.heap.size = G := ⟨_, rfl⟩
      obtain ⟨b1, b2, b3, b4, b5, b6, b7⟩ := boxes w2 G hG _ _ _ _ _ _ _ _ w4 hw4
      clear hw4 hm
      have s2 : w1.heap.size + 1 ≤ G := by have := hB2.size; omega
      have hB12 : Below w1.heap.size w1 w2 := Below.trans ⟨hS.os, hS.tape, hS.output, hS.size, hS.block⟩ (below_le hB2 (by omega))
      have hB24 : Below w2.heap.size w2 w4 := b7
      have hd4 : ∀ i, i < len → a = some ⟨db, dof, none⟩ ∧ w4.cell? ⟨db, dof + i, none⟩ = some (.int .u8 (D i)) := fun i hi => by
        obtain ⟨h1, h2⟩ := hd1 i hi
        have h0 := World.block_lt_of_cell? _ _ (hdata i hi).2
        simp only at h0
        refine ⟨h1, ?_⟩
        rw [hDZ i hi]
        exact below_cell hB24 (below_cell hB12 h2 (by simp; omega)) (by simp; omega)
      have hdb : len = 0 ∨ db < w.heap.size := by
        rcases Nat.eq_zero_or_pos len with h | h
        · exact .inl h
        · exact .inr (World.block_lt_of_cell? _ _ (hdata 0 h).2)
      have hq : ∃ db', (∀ i, i < len → a = some ⟨db', dof, none⟩ ∧ w4.cell? ⟨db', dof + i, none⟩ = some (.int .u8 (D i))) ∧ db' ≠ G := by
        rcases hdb with h | h
        · exact ⟨G + 1, fun i hi => by omega, by omega⟩
        · exact ⟨db, hd4, by omega⟩
      obtain ⟨db', hd4', hne⟩ := hq
      have hseq := seq_any n start G (G + 3) (G + 1) (G + 2) a len cap db' dof L D w4 hn hl6 hlc hs hL hd4' hDr b6 b4 b5 b2 b3 hne
      rw [nblk_alloc, hG]
      clear b1 b2 b3 b4 b5 b6 hd4' hne hdb hS hsz
      go_wp2_with (go_at_call 33; refine hseq.mono ?_; rintro e w5 ⟨rfl, K', wm, hE', hBm, hGot⟩)
      obtain rfl := ends_one hE2 hE'
      have hsm := hBm.size
      have hs4 := hB24.size
      have hB25 : Below G w2 w5 := hGot.below ((below_le hB24 (by omega)).trans (below_le hBm (by omega))) (Nat.le_refl _) (by omega)
      have hB15 : Below w1.heap.size w1 w5 := hB12.trans (below_le hB25 (by omega))
      have hB05 : Below w.heap.size w w5 := hB1.trans (below_le hB15 hs1)
      have e1 : ∀ i, i < len → a = some ⟨db, dof, none⟩ ∧ w5.cell? ⟨db, dof + i, none⟩ = some (.int .u8 (Z i)) := fun i hi => ⟨(hdata i hi).1, below_cell hB05 (hdata i hi).2 (World.block_lt_of_cell? _ _ (hdata i hi).2)⟩
      have e2 : ∃ yb, ∀ i, i < len → a' = some ⟨yb, 0, none⟩ ∧ w5.cell? ⟨yb, 0 + i, none⟩ = some (.int .u8 (Z i)) := by
        rcases Nat.eq_zero_or_pos len with h | h
        · exact ⟨0, fun i hi => by omega⟩
        · obtain ⟨g, hg1, _, hg3⟩ := hcl 0 h
          exact ⟨g, fun i hi => ⟨hg1, by rw [Nat.zero_add]; exact below_cell hB15 (hg3 i hi) (World.block_lt_of_cell? _ _ (hg3 i hi))⟩⟩
      obtain ⟨yb, e2⟩ := e2
      refine (equal_any a a' len cap cp db dof yb 0 Z w5 hl6 e1 e2).mono ?_
      rintro e w6 ⟨rfl, d, hw6⟩
      have hw7 := hw6.symm
      clear hw6
      subst hw7
      obtain ⟨vg, hvg, hown⟩ := hGot.own
      rw [row_length] at hown
      obtain ⟨ag, cg, rfl⟩ := owns_slice hown
      have q1 : ∀ i, i < K → ∃ g, ag = some ⟨g, 0, none⟩ ∧ w5.cell? ⟨g, i, none⟩ = some (.int .u8 (V start D L i)) := fun i hi => by
        obtain ⟨g, hg, _, _, _, hc⟩ := owned_cells hown hi
        exact ⟨g, hg, hc i _ (row_at _ _ hi)⟩
      have q2 : ∀ i, i < K → ∃ g, am = some ⟨g, 0, none⟩ ∧ w5.cell? ⟨g, i, none⟩ = some (.int .i64 (V start D L i)) := fun i hi => by
        obtain ⟨g, hg, _, hc⟩ := hrow2 i hi
        have hb := World.block_lt_of_cell? _ _ (hc i hi)
        simp only at hb
        exact ⟨g, hg, below_cell hB25 (hc i hi) (by simp; omega)⟩
      have hK6 : K ≤ 600 := by
        rcases Nat.eq_zero_or_pos K with h | h
        · omega
        · have := (hE2.1 (K - 1) (by omega)).1; omega
      have q3 : ∀ i, i < K → 0 ≤ V start D L i ∧ V start D L i ≤ 255 := fun i hi => (hE2.1 i hi).2.2
      clear hown hrow2 hE2 hE' hGot e1 e2 hd1 hd4 hcl hdata hB25 hB15 hB24 hB12 hB1 hB2 hBm b7 hseq hsm hs4 hnil
      have hd : ∀ p, (w5.drewN d).cell? p = w5.cell? p := fun _ => rfl
      go_wp2_with fail
      go_loopg [13] K (fun g s13 wx => ∃ (i d' : Nat), i ≤ K ∧ g = K - i ∧ s13 = .int .i64 i ∧ wx = w5.drewN d')
      case atStart => exact ⟨0, d, Nat.zero_le _, rfl, rfl, rfl⟩
      case round =>
        obtain ⟨i, d', hi, rfl, rfl, rfl⟩ := hrel
        by_cases hil : i < K
        · have hiz : (i : Int) < (K : Int) := by omega
          obtain ⟨g1, h1, t1⟩ := q1 i hil
          obtain ⟨g2, h2, t2⟩ := q2 i hil
          have hb := q3 i hil
          subst h1 h2
          generalize V start D L i = x at t1 t2 hb
          go_wp2_with fail
          go_quiet (fail)
          go_wp2_with fail
          go_roundg (K - (i + 1))
          case measure => go_light; omega
          case rel => go_light; exact ⟨i + 1, _, by omega, rfl, by go_num, by first | rfl | simp⟩
        · have hiz : ¬ ((i : Int) < (K : Int)) := by omega
          go_wp2_with fail
          go_ret
          exact ⟨rfl, ⟨hB05.os, hB05.tape, hB05.output, hB05.size, hB05.block⟩⟩

end Go.Proofs.Ybulkdloo.U
