/-
  Law B: the walk.
-/
import Derived.Test.YbulkdlmkBParts
import Derived.Deep.QuietTactic
import Derived.BigQuiet
import Derived.WalkLawsBesides
import Derived.WalkSpells
namespace Go.Proofs.Ybulkdlmk.B
open Go Go.RowKit Go.Deep Go.Proofs.Ybulkdlmk.Lib Go.Proofs.Ybulkdlmk.Fl

attribute [local go_sem] run_store_float

theorem fbits (b : Nat) (w : World) : (callFunc 8 #[.float .f64 b]).run Yba.prog w = .ok (.value (.int .u64 (b : Int))) w := by
  rw [run_callFunc_extern Yba.func8 (by kernel_rfl) (by kernel_rfl) (by kernel_rfl) (e := Extern.MathFloatBits.float64bits) (by kernel_rfl)]
  rfl

set_option maxHeartbeats 1600000 in
set_option maxRecDepth 1000000 in
theorem law_b (rr mm ex : Int) (a : Option Addr) (len cap db dof : Nat) (D : Nat → Nat) (w : World) (h1 : 0 ≤ rr ∧ rr ≤ 255) (h2 : 0 ≤ mm ∧ mm ≤ 255) (h3 : 0 ≤ ex ∧ ex ≤ 255) (hlen : len ≤ 9223372036854775807)
    (hdata : ∀ i, i < len → a = some ⟨db, dof, none⟩ ∧ w.cell? ⟨db, dof + i, none⟩ = some (.float .f64 (D i))) :
    Calls Yba.prog 4 #[.int .u8 rr, .int .u8 mm, .int .u8 ex, .slice a len cap] w fun e w' => e = .returned (.bool true) ∧ Below w.heap.size w w' := by
  obtain ⟨r, rfl⟩ := Int.eq_ofNat_of_zero_le h1.1
  obtain ⟨m0, rfl⟩ := Int.eq_ofNat_of_zero_le h2.1
  obtain ⟨x0, rfl⟩ := Int.eq_ofNat_of_zero_le h3.1
  have hr : r ≤ 255 := by omega
  clear h1
  have hm0 : m0 ≤ 255 := by omega
  have hx0 : x0 ≤ 255 := by omega
  clear h2 h3
  have hmk := run_make_row' (P := Yba.prog) 38 37 (.slice none 0 0) 24 Yba.underlying38 info37 rfl .i64 .i64 r (by omega) (by omega)
  go_enter Yba.func4, Yba.ntmps4
  go_wp2_with fail
  obtain ⟨m, hmm, hm⟩ : ∃ m : Nat, (m0 : Int) % 33 = (m : Int) ∧ m ≤ 32 := ⟨m0 % 33, by omega, by omega⟩
  obtain ⟨n, hnn, hn1, hn2⟩ : ∃ n : Nat, (r : Int) + (x0 : Int) % 4 = (n : Int) ∧ r ≤ n ∧ n ≤ 258 := ⟨r + x0 % 4, by omega, by omega, by omega⟩
  rw [hmm, hnn]
  clear hmm hnn hmk
  -- the first loop: the rows and their copies
  go_loopg [14] r (fun g s14 wr => ∃ (k : Nat), k ≤ r ∧ g = r - k ∧ s14 = .int .i64 k ∧ Fill w wr r m k (fun k j => val D len (k * m + j)))
  case atStart => exact ⟨0, Nat.zero_le _, rfl, rfl, fill_start w r m _⟩
  case round =>
    obtain ⟨k, hk, rfl, rfl, hF⟩ := hrel
    by_cases hkr : k < r
    · have hkz : (k : Int) < (r : Int) := by omega
      have hsize := hF.size
      have hmk := run_make_row' (P := Yba.prog) 37 23 (.float .f64 0) 8 Yba.underlying37 info23 rfl .i64 .i64 m (by omega) (by omega)
      go_wp2_with fail
      have hI0 := in_start hF
      clear hmk hsize hF
      obtain ⟨q, hq, HQ⟩ : ∃ q : Nat, q ≤ 8128 ∧ Hid (q = k * m) := ⟨k * m, Nat.le_trans (Nat.mul_le_mul (show k ≤ 254 by omega) hm) (by decide), rfl⟩
      have e1 : (k : Int) * (m : Int) = (q : Int) := by rw [HQ.out, Int.natCast_mul]
      go_loopg [17] m (fun g s17 wi => ∃ (c : Nat), c ≤ m ∧ g = m - c ∧ s17 = .int .i64 c ∧ FillIn w wi r m k c c (fun k j => val D len (k * m + j)))
      case atStart => exact ⟨0, Nat.zero_le _, rfl, rfl, hI0⟩
      case round =>
        obtain ⟨c, hc, rfl, rfl, hI⟩ := hrel
        clear hI0
        by_cases hcm : c < m
        · have hcz : (c : Int) < (m : Int) := by omega
          have t1 : wr.cell? ⟨w.heap.size + 2 + 2 * k, c, none⟩ = some (.float .f64 0) := by simpa [partRow] using hI.cur.cell hcm
          have t2 : wr.frozen? ⟨w.heap.size + 2 + 2 * k, c, none⟩ = false := hI.cur.frozen c
          have t3 : wr.cell? ⟨w.heap.size + 2 + 2 * k + 1, c, none⟩ = some (.float .f64 0) := by simpa [partRow] using hI.cur2.cell hcm
          have t4 : wr.frozen? ⟨w.heap.size + 2 + 2 * k + 1, c, none⟩ = false := hI.cur2.frozen c
          by_cases hl0 : 0 < len
          · have hlz : (0 : Int) < (len : Int) := by omega
            obtain ⟨p, hp, HP, e2⟩ : ∃ p : Nat, p < len ∧ Hid (p = (q + c) % len) ∧ ((q : Int) + (c : Int)) % (len : Int) = (p : Int) := ⟨(q + c) % len, Nat.mod_lt _ hl0, rfl, by simp⟩
            have ha := (hdata 0 hl0).1
            have t5 : wr.cell? ⟨db, dof + p, none⟩ = some (.float .f64 (D p)) := by
              have := (hdata _ hp).2
              rw [hI.since.cell (a := ⟨db, dof + p, none⟩) (World.block_lt_of_cell? _ _ this)]; exact this
            subst ha
            go_wp2_with fail
            have hv : D p = val D len (k * m + c) := by unfold val; rw [if_pos hl0, HP.out, HQ.out]
            go_roundg (m - (c + 1))
            case measure => go_light; omega
            case rel => go_light; exact ⟨c + 1, by omega, rfl, by go_num, in_cp (in_row hI hv) hv⟩
          · have hlz : ¬ ((0 : Int) < (len : Int)) := by omega
            go_wp2_with fail
            have hv : floatOfInt .f64 ((q : Int) + (c : Int)) = val D len (k * m + c) := by unfold val; rw [if_neg hl0, ← HQ.out, Int.natCast_add]
            go_roundg (m - (c + 1))
            case measure => go_light; omega
            case rel => go_light; exact ⟨c + 1, by omega, rfl, by go_num, in_cp (in_row hI hv) hv⟩
        · have hcz : ¬ ((c : Int) < (m : Int)) := by omega
          obtain rfl : c = m := by omega
          have t1 : wr.cell? ⟨w.heap.size, k, none⟩ = some (.slice none 0 0) := by simpa [rowPtr] using hI.frm.cell hkr
          have t2 : wr.frozen? ⟨w.heap.size, k, none⟩ = false := hI.frm.frozen k
          have t3 : wr.cell? ⟨w.heap.size + 1, k, none⟩ = some (.slice none 0 0) := by simpa [rowPtr] using hI.keep.cell hkr
          have t4 : wr.frozen? ⟨w.heap.size + 1, k, none⟩ = false := hI.keep.frozen k
          go_wp2_with fail
          go_roundg (r - (k + 1))
          case measure => go_light; omega
          case rel => go_light; exact ⟨k + 1, by omega, rfl, by go_num, in_done hI⟩
    · have hkz : ¬ ((k : Int) < (r : Int)) := by omega
      have hkr' : r = k := by omega
      subst hkr'
      go_wp2_with fail
      refine (rows_any w.heap.size n m r (fun i => w.heap.size + 2 + 2 * i) (fun k j => val D len (k * m + j)) wr (by omega) hm hn1 ?_ ?_).mono ?_
      · intro i hi; have := hF.frm.cell hi; simpa [rowPtr, hi] using this
      · intro i hi j hj; exact (hF.rows i hi).cell hj
      rintro e w2 ⟨rfl, hM⟩
      have hS := seen_start hF hM
      generalize hSz : wr.heap.size = S at hS ⊢
      clear hSz hM hF hdata
      go_wp2_with fail
      -- the third loop: 'to' against 'keep'
      have hnl := fun w' : World => run_neq_slice_nil_any (P := Yba.prog) w' 37 23 none 0 0 0 0 Yba.underlying37
      go_loopg [20] n (fun g s20 wx => ∃ (k : Nat), k ≤ n ∧ g = n - k ∧ s20 = .int .i64 k ∧ Seen w wx S n m r 0 (fun k j => val D len (k * m + j)))
      case atStart => exact ⟨0, Nat.zero_le _, rfl, rfl, hS⟩
      case round =>
        clear hkz hkr hS
        obtain ⟨k, hk, rfl, rfl, hS⟩ := hrel
        by_cases hkn : k < n
        · have hkz : (k : Int) < (n : Int) := by omega
          by_cases hkr : k < r
          · have hkz2 : (k : Int) < (r : Int) := by omega
            obtain ⟨q, hq, HQ⟩ : ∃ q : Nat, q ≤ 8128 ∧ Hid (q = k * m) := ⟨k * m, Nat.le_trans (Nat.mul_le_mul (show k ≤ 254 by omega) hm) (by decide), rfl⟩
            have t1 : wr.cell? ⟨S + 1, k, none⟩ = some (.slice (some ⟨S, q, none⟩) m m) := by rw [HQ.out]; simpa [toCell, hkr] using hS.to.cell hkn
            go_wp2_with fail
            clear t1
            have fb := fbits
            go_loopg [21] m (fun g s21 wx => ∃ (c : Nat), c ≤ m ∧ g = m - c ∧ s21 = .int .i64 c ∧ Seen w wx S n m r 0 (fun k j => val D len (k * m + j)))
            case atStart => exact ⟨0, Nat.zero_le _, rfl, rfl, hS⟩
            case round =>
              clear hS
              obtain ⟨c, hc, rfl, rfl, hS⟩ := hrel
              by_cases hcm : c < m
              · have hcz : (c : Int) < (m : Int) := by omega
                have u1 : wr.cell? ⟨S + 1, k, none⟩ = some (.slice (some ⟨S, q, none⟩) m m) := by rw [HQ.out]; simpa [toCell, hkr] using hS.to.cell hkn
                have u2 : wr.cell? ⟨S, q + c, none⟩ = some (.float .f64 (val D len (q + c))) := by rw [HQ.out]; exact seen_cell hS hkr hn1 hcm
                have u3 : wr.cell? ⟨w.heap.size + 1, k, none⟩ = some (.slice (some ⟨w.heap.size + 2 + 2 * k + 1, 0, none⟩) m m) := by simpa [rowPtr, hkr] using hS.keep.cell hkr
                have u4 : wr.cell? ⟨w.heap.size + 2 + 2 * k + 1, c, none⟩ = some (.float .f64 (val D len (q + c))) := by rw [HQ.out]; exact (hS.cps k hkr).cell hcm
                go_wp2_with fail
                go_quiet (fail)
                go_wp2_with fail
                go_roundg (m - (c + 1))
                case measure => go_light; omega
                case rel => go_light; exact ⟨c + 1, by omega, rfl, by go_num, seen_drew hS _⟩
              · have hcz : ¬ ((c : Int) < (m : Int)) := by omega
                go_wp2_with fail
                go_roundg (n - (k + 1))
                case measure => go_light; omega
                case rel => go_light; exact ⟨k + 1, by omega, rfl, by go_num, hS⟩
          · have hkz2 : ¬ ((k : Int) < (r : Int)) := by omega
            have t1 : wr.cell? ⟨S + 1, k, none⟩ = some (.slice none 0 0) := by simpa [toCell, hkr] using hS.to.cell hkn
            go_wp2_with fail
            go_roundg (n - (k + 1))
            case measure => go_light; omega
            case rel => go_light; exact ⟨k + 1, by omega, rfl, by go_num, hS⟩
        · have hkz : ¬ ((k : Int) < (n : Int)) := by omega
          go_wp2_with fail
          clear hkz hkn hk hnl
          -- the fifth loop: every row written over
          have hS0 : Seen w wr S n m r (0 * m) (fun k j => val D len (k * m + j)) := by rw [Nat.zero_mul]; exact hS
          clear hS
          go_loopg [22] r (fun g s22 wx => ∃ (k : Nat), k ≤ r ∧ g = r - k ∧ s22 = .int .i64 k ∧ Seen w wx S n m r (k * m) (fun k j => val D len (k * m + j)))
          case atStart => exact ⟨0, Nat.zero_le _, rfl, rfl, hS0⟩
          case round =>
            clear hS0
            obtain ⟨k, hk, rfl, rfl, hS⟩ := hrel
            by_cases hkr : k < r
            · have hkz : (k : Int) < (r : Int) := by omega
              have hkn : k < n := by omega
              obtain ⟨q, hq, HQ⟩ : ∃ q : Nat, q ≤ 8128 ∧ Hid (q = k * m) := ⟨k * m, Nat.le_trans (Nat.mul_le_mul (show k ≤ 254 by omega) hm) (by decide), rfl⟩
              have e1 : (k : Int) * (m : Int) = (q : Int) := by rw [HQ.out, Int.natCast_mul]
              have hS1 : Seen w wr S n m r (q + 0) (fun k j => val D len (k * m + j)) := by rw [HQ.out]; exact hS
              clear hS
              go_wp2_with fail
              go_loopg [23] m (fun g s23 wx => ∃ (c : Nat), c ≤ m ∧ g = m - c ∧ s23 = .int .i64 c ∧ Seen w wx S n m r (q + c) (fun k j => val D len (k * m + j)))
              case atStart => exact ⟨0, Nat.zero_le _, rfl, rfl, hS1⟩
              case round =>
                clear hS1
                obtain ⟨c, hc, rfl, rfl, hS⟩ := hrel
                by_cases hcm : c < m
                · have hcz : (c : Int) < (m : Int) := by omega
                  have u1 : wr.cell? ⟨S + 1, k, none⟩ = some (.slice (some ⟨S, q, none⟩) m m) := by rw [HQ.out]; simpa [toCell, hkr] using hS.to.cell hkn
                  have u2 : wr.cell? ⟨S, q + c, none⟩ = some (.float .f64 (val D len (q + c))) := by rw [HQ.out]; exact seen_any hS hkr hn1 hcm (by rw [HQ.out])
                  have u3 : wr.frozen? ⟨S, q + c, none⟩ = false := hS.cells.frozen _
                  have ha := fun w' : World => half_run (P := Yba.prog) q c w'
                  go_wp2_with fail
                  go_roundg (m - (c + 1))
                  case measure => go_light; omega
                  case rel => go_light; exact ⟨c + 1, by omega, rfl, by go_num, seen_store hS⟩
                · have hcz : ¬ ((c : Int) < (m : Int)) := by omega
                  have hS2 : Seen w wr S n m r ((k + 1) * m) (fun k j => val D len (k * m + j)) := by
                    have hcm' : q + m = q + c := by omega
                    rw [Nat.succ_mul, ← HQ.out, hcm']; exact hS
                  go_wp2_with fail
                  go_roundg (r - (k + 1))
                  case measure => go_light; omega
                  case rel => go_light; exact ⟨k + 1, by omega, rfl, by go_num, hS2⟩
            · have hkz : ¬ ((k : Int) < (r : Int)) := by omega
              have hkr' : r = k := by omega
              subst hkr'
              go_wp2_with fail
              clear hkz hkr hk
              -- the seventh loop: what was written stands; 'from' is as it was
              have fb := fbits
              go_loopg [24] r (fun g s24 wx => ∃ (k : Nat), k ≤ r ∧ g = r - k ∧ s24 = .int .i64 k ∧ Seen w wx S n m r (r * m) (fun k j => val D len (k * m + j)))
              case atStart => exact ⟨0, Nat.zero_le _, rfl, rfl, hS⟩
              case round =>
                clear hS
                obtain ⟨k, hk, rfl, rfl, hS⟩ := hrel
                by_cases hkr : k < r
                · have hkz : (k : Int) < (r : Int) := by omega
                  have hkn : k < n := by omega
                  obtain ⟨q, hq, HQ⟩ : ∃ q : Nat, q ≤ 8128 ∧ Hid (q = k * m) := ⟨k * m, Nat.le_trans (Nat.mul_le_mul (show k ≤ 254 by omega) hm) (by decide), rfl⟩
                  have e1 : (k : Int) * (m : Int) = (q : Int) := by rw [HQ.out, Int.natCast_mul]
                  go_wp2_with fail
                  go_loopg [25] m (fun g s25 wx => ∃ (c : Nat), c ≤ m ∧ g = m - c ∧ s25 = .int .i64 c ∧ Seen w wx S n m r (r * m) (fun k j => val D len (k * m + j)))
                  case atStart => exact ⟨0, Nat.zero_le _, rfl, rfl, hS⟩
                  case round =>
                    clear hS
                    obtain ⟨c, hc, rfl, rfl, hS⟩ := hrel
                    by_cases hcm : c < m
                    · have hcz : (c : Int) < (m : Int) := by omega
                      have u1 : wr.cell? ⟨S + 1, k, none⟩ = some (.slice (some ⟨S, q, none⟩) m m) := by rw [HQ.out]; simpa [toCell, hkr] using hS.to.cell hkn
                      have u2 : wr.cell? ⟨S, q + c, none⟩ = some (.float .f64 (halfUp (q + c))) := by rw [HQ.out]; exact seen_half hS hkr hn1 hcm
                      have ha := fun w' : World => half_run (P := Yba.prog) q c w'
                      have hh : FloatKind.f64.format.order (halfUp (q + c)) (halfUp (q + c)) = some .eq := half_eq _
                      have u3 : wr.cell? ⟨w.heap.size + 1, k, none⟩ = some (.slice (some ⟨w.heap.size + 2 + 2 * k + 1, 0, none⟩) m m) := by simpa [rowPtr, hkr] using hS.keep.cell hkr
                      have u4 : wr.cell? ⟨w.heap.size + 2 + 2 * k + 1, c, none⟩ = some (.float .f64 (val D len (q + c))) := by rw [HQ.out]; exact (hS.cps k hkr).cell hcm
                      have u5 : wr.cell? ⟨w.heap.size, k, none⟩ = some (.slice (some ⟨w.heap.size + 2 + 2 * k, 0, none⟩) m m) := by simpa [rowPtr, hkr] using hS.frm.cell hkr
                      have u6 : wr.cell? ⟨w.heap.size + 2 + 2 * k, c, none⟩ = some (.float .f64 (val D len (q + c))) := by rw [HQ.out]; exact (hS.rows k hkr).cell hcm
                      go_wp2_with fail
                      go_quiet (fail)
                      go_wp2_with fail
                      go_roundg (m - (c + 1))
                      case measure => go_light; omega
                      case rel => go_light; exact ⟨c + 1, by omega, rfl, by go_num, seen_drew hS _⟩
                    · have hcz : ¬ ((c : Int) < (m : Int)) := by omega
                      go_wp2_with fail
                      go_roundg (r - (k + 1))
                      case measure => go_light; omega
                      case rel => go_light; exact ⟨k + 1, by omega, rfl, by go_num, hS⟩
                · have hkz : ¬ ((k : Int) < (r : Int)) := by omega
                  go_wp2
                  go_ret
                  exact ⟨rfl, below_of_since hS.since⟩
end Go.Proofs.Ybulkdlmk.B
