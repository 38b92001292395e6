/-
  Law BUnsigned's callees: the small ones.
-/
import Derived.Test.YbulkdlooRows
import Derived.WalkKit
import Derived.Deep.OwnRows
import Derived.Deep.LoopGhost
import Derived.Deep.Light
import Derived.Outline
import Derived.WalkLawsBesides
import Derived.WalkSpells
import Derived.BigQuiet
import Derived.Laws.MathBits
namespace Go.Proofs.Ybulkdloo.U
open Go Go.RowKit Go.Deep

theorem wrap_k (n : Int) : IntKind.u8.wrap n = n % 256 := by
  simp [IntKind.wrap, IntKind.bits, IntKind.signed]
  try (first | omega | (split <;> omega))

theorem isInteger_any (w : World) : Calls Yba.prog 47 #[] w fun e w' => e = .returned (.bool true) ∧ w' = w := by
  go_enter Yba.func47, Yba.ntmps47
  go_wp2
  go_ret
  exact ⟨rfl, rfl⟩

theorem limits_any (w : World) : Calls Yba.prog 46 #[] w fun e w' => e = .returned (.tuple #[.int .u8 0, .int .u8 255]) ∧ w' = w := by
  go_enter Yba.func46, Yba.ntmps46
  go_wp2_with (go_at_call 47; refine (isInteger_any _).mono ?_; rintro e w' ⟨rfl, hw⟩; have hw2 := hw.symm; clear hw; subst hw2)
  go_ret2
  exact ⟨rfl, rfl⟩

theorem finite_any (x : Int) (w : World) : Calls Yba.prog 36 #[.int .u8 x] w fun e w' => e = .returned (.bool true) ∧ w' = w := by
  have h : x - x = 0 := by omega
  go_enter Yba.func36, Yba.ntmps36
  go_wp2
  go_ret
  exact ⟨rfl, rfl⟩

theorem before_any (a b d : Int) (w : World) : Calls Yba.prog 35 #[.int .u8 a, .int .u8 b, .int .u8 d] w fun e w' => e = .returned (.bool (if 0 < d then decide (a < b) else decide (b < a))) ∧ w' = w := by
  by_cases h : 0 < d
  · go_enter Yba.func35, Yba.ntmps35
    go_wp2
    go_ret
    exact ⟨by simp, rfl⟩
  · go_enter Yba.func35, Yba.ntmps35
    go_wp2
    go_ret
    exact ⟨by simp, rfl⟩

theorem mul_any (r m q : Nat) (hr : r ≤ 65536) (hm : m ≤ 256) (hq : r * m = q) (hqb : q ≤ 16777216) (w : World) : Calls Yba.prog 45 #[.int .u64 r, .int .u64 m] w fun e w' => e = .returned (.tuple #[.int .u64 0, .int .u64 q]) ∧ w' = w := by
  have e1 : bits .and .u64 (r : Int) 4294967295 = (r : Int) := by rw [and_low32 _ (by omega) (by omega)]; omega
  have e2 : bits .and .u64 (m : Int) 4294967295 = (m : Int) := by rw [and_low32 _ (by omega) (by omega)]; omega
  have e3 : (r : Int) / 4294967296 = 0 := by omega
  have e4 : (m : Int) / 4294967296 = 0 := by omega
  have e5 : (r : Int) * (m : Int) = (q : Int) := by rw [← hq, Int.natCast_mul]
  have e6 : (q : Int) / 4294967296 = 0 := by omega
  have e7 : IntKind.u64.wrap (q : Int) = (q : Int) := by rw [IntKind.wrap_u64]; omega
  have e8 : IntKind.u64.wrap 0 = 0 := by rw [IntKind.wrap_u64]; omega
  have e9 : bits .and .u64 0 4294967295 = 0 := by rw [and_low32 _ (by omega) (by omega)]; omega
  clear hq
  go_enter Yba.func45, Yba.ntmps45
  go_wp2
  go_ret2
  exact ⟨rfl, rfl⟩

theorem prod_small (C m : Nat) (hC : C ≤ 65536) (hm : m ≤ 256) : C * m ≤ 16777216 := Nat.mul_le_mul hC hm

set_option maxHeartbeats 1600000 in
set_option maxRecDepth 1000000 in
theorem bounds_any (db dof L cap C : Nat) (D : Nat → Int) (w : World) (hL : L ≤ 65536) (hC : C ≤ 65536)
    (hdata : ∀ i, i < L → w.cell? ⟨db, dof + i, none⟩ = some (.int .u8 (D i))) (hD : ∀ i, i < L → 0 ≤ D i ∧ D i ≤ 255) :
    Calls Yba.prog 34 #[.slice (some ⟨db, dof, none⟩) L cap, .int .i64 C] w fun e w' => ∃ lo hi : Int, e = .returned (.tuple #[.int .u8 lo, .int .u8 hi]) ∧ w' = w ∧
      ∀ v : Int, lo ≤ v → v ≤ hi → ∃ m q : Nat, C * m = q ∧ (∀ i, i < L → -(m : Int) ≤ D i ∧ D i ≤ m) ∧ 0 + (q : Int) ≤ v ∧ v + q ≤ 255 := by
  go_enter Yba.func34, Yba.ntmps34
  go_wp2_with (first | (go_at_call 46; refine (limits_any _).mono ?_; rintro e w' ⟨rfl, hw⟩; have hw2 := hw.symm; clear hw; subst hw2) | (go_at_call 47; refine (isInteger_any _).mono ?_; rintro e w' ⟨rfl, hw⟩; have hw2 := hw.symm; clear hw; subst hw2))
  go_loopg [6, 21] L (fun g s6 s21 wx => ∃ (i m : Nat), i ≤ L ∧ g = L - i ∧ s21 = .int .i64 i ∧ s6 = .int .u64 m ∧ m ≤ 255 ∧ (∀ j, j < i → -(m : Int) ≤ D j ∧ D j ≤ m) ∧ w = wx)
  case atStart => exact ⟨0, 0, Nat.zero_le _, rfl, rfl, rfl, by omega, fun j hj => absurd hj (Nat.not_lt_zero _), rfl⟩
  case round =>
    obtain ⟨i, m, hi, rfl, rfl, rfl, hm, hb, rfl⟩ := hrel
    by_cases hil : i < L
    · have hiz : (i : Int) < (L : Int) := by omega
      have t1 := hdata i hil
      have hd := hD i hil
      have key : ∀ a m' : Nat, (a : Int) = D i → m ≤ m' → a ≤ m' → (∀ j, j < i + 1 → -(m' : Int) ≤ D j ∧ D j ≤ m') := by
        intro a m' ha h1 h2 j hj
        by_cases e : j = i
        · subst e; omega
        · have := hb j (by omega); omega
      have HK := (show Hid _ from key)
      clear key hb
      have hneg : ¬ (D i < 0) := by omega
      obtain ⟨a, ha⟩ : ∃ a : Nat, (a : Int) = D i := ⟨(D i).toNat, by omega⟩
      have HA : Hid ((a : Int) = D i) := ha
      have hab : a ≤ 255 := by omega
      have c1 : IntKind.u64.wrap (D i) = (a : Int) := by rw [IntKind.wrap_u64]; omega
      have c2 : D i = (a : Int) := by omega
      clear ha
      by_cases hlt : m < a
      · have hltz : (m : Int) < (a : Int) := by omega
        go_wp2_with fail
        go_roundg (L - (i + 1))
        case measure => go_light; omega
        case rel => go_light; exact ⟨i + 1, a, by omega, rfl, by go_num, by first | rfl | rw [c2], hab, HK.out a a HA.out (by omega) (by omega), rfl⟩
      · have hltz : ¬ ((m : Int) < (a : Int)) := by omega
        go_wp2_with fail
        go_roundg (L - (i + 1))
        case measure => go_light; omega
        case rel => go_light; exact ⟨i + 1, m, by omega, rfl, by go_num, rfl, hm, HK.out a m HA.out (by omega) (by omega), rfl⟩
    · have hiz : ¬ ((i : Int) < (L : Int)) := by omega
      have hil' : L = i := by omega
      subst hil'
      have hq := prod_small C m hC (by omega)
      generalize hqq : C * m = q at hq
      have HQ : Hid (C * m = q) := hqq
      clear hqq
      by_cases hbig : 127 < q
      · have hbz : (127 : Int) < (q : Int) := by omega
        go_wp2_with (go_at_call 45; refine (mul_any C m q hC (by omega) HQ.out hq _).mono ?_; rintro e w' ⟨rfl, hw⟩; have hw2 := hw.symm; clear hw; subst hw2)
        go_ret2
        exact ⟨1, 0, rfl, rfl, fun v h1 h2 => absurd h1 (by omega)⟩
      · have hbz : ¬ ((127 : Int) < (q : Int)) := by omega
        go_wp2_with (go_at_call 45; refine (mul_any C m q hC (by omega) HQ.out hq _).mono ?_; rintro e w' ⟨rfl, hw⟩; have hw2 := hw.symm; clear hw; subst hw2)
        go_ret2
        exact ⟨(q : Int), 255 - (q : Int), rfl, rfl, fun v h1 h2 => ⟨m, q, HQ.out, hb, by omega, by omega⟩⟩

end Go.Proofs.Ybulkdloo.U
