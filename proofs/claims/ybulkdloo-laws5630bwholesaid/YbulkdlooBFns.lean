/-
  Law BWhole's callees: the small ones.
-/
import Derived.Test.YbulkdlooRows
import Derived.WalkKit
import Derived.Deep.OwnRows
import Derived.Deep.LoopGhost
import Derived.Deep.Light
import Derived.Outline
import Derived.WalkLawsBesides
import Derived.WalkSpells
import Derived.BigQuiet
import Derived.Laws.MathBits
namespace Go.Proofs.Ybulkdloo.B
open Go Go.RowKit Go.Deep

theorem wrap_k (n : Int) : IntKind.i8.wrap n = (n + 128) % 256 - 128 := by
  simp [IntKind.wrap, IntKind.bits, IntKind.signed]
  try (first | omega | (split <;> omega))

theorem isInteger_any (w : World) : Calls Yba.prog 44 #[] w fun e w' => e = .returned (.bool true) ∧ w' = w := by
  go_enter Yba.func44, Yba.ntmps44
  go_wp2
  go_ret
  exact ⟨rfl, rfl⟩

theorem limits_any (w : World) : Calls Yba.prog 43 #[] w fun e w' => e = .returned (.tuple #[.int .i8 (-128), .int .i8 127]) ∧ w' = w := by
  go_enter Yba.func43, Yba.ntmps43
  go_wp2_with (go_at_call 44; refine (isInteger_any _).mono ?_; rintro e w' ⟨rfl, hw⟩; have hw2 := hw.symm; clear hw; subst hw2)
  go_ret2
  exact ⟨rfl, rfl⟩

theorem finite_any (x : Int) (w : World) : Calls Yba.prog 32 #[.int .i8 x] w fun e w' => e = .returned (.bool true) ∧ w' = w := by
  have h : x - x = 0 := by omega
  go_enter Yba.func32, Yba.ntmps32
  go_wp2
  go_ret
  exact ⟨rfl, rfl⟩

theorem before_any (a b d : Int) (w : World) : Calls Yba.prog 31 #[.int .i8 a, .int .i8 b, .int .i8 d] w fun e w' => e = .returned (.bool (if 0 < d then decide (a < b) else decide (b < a))) ∧ w' = w := by
  by_cases h : 0 < d
  · go_enter Yba.func31, Yba.ntmps31
    go_wp2
    go_ret
    exact ⟨by simp, rfl⟩
  · go_enter Yba.func31, Yba.ntmps31
    go_wp2
    go_ret
    exact ⟨by simp, rfl⟩

theorem mul_any (r m q : Nat) (hr : r ≤ 65536) (hm : m ≤ 256) (hq : r * m = q) (hqb : q ≤ 16777216) (w : World) : Calls Yba.prog 45 #[.int .u64 r, .int .u64 m] w fun e w' => e = .returned (.tuple #[.int .u64 0, .int .u64 q]) ∧ w' = w := by
  have e1 : bits .and .u64 (r : Int) 4294967295 = (r : Int) := by rw [and_low32 _ (by omega) (by omega)]; omega
  have e2 : bits .and .u64 (m : Int) 4294967295 = (m : Int) := by rw [and_low32 _ (by omega) (by omega)]; omega
  have e3 : (r : Int) / 4294967296 = 0 := by omega
  have e4 : (m : Int) / 4294967296 = 0 := by omega
  have e5 : (r : Int) * (m : Int) = (q : Int) := by rw [← hq, Int.natCast_mul]
  have e6 : (q : Int) / 4294967296 = 0 := by omega
  have e7 : IntKind.u64.wrap (q : Int) = (q : Int) := by rw [IntKind.wrap_u64]; omega
  have e8 : IntKind.u64.wrap 0 = 0 := by rw [IntKind.wrap_u64]; omega
  have e9 : bits .and .u64 0 4294967295 = 0 := by rw [and_low32 _ (by omega) (by omega)]; omega
  clear hq
  go_enter Yba.func45, Yba.ntmps45
  go_wp2
  go_ret2
  exact ⟨rfl, rfl⟩

theorem prod_small (C m : Nat) (hC : C ≤ 65536) (hm : m ≤ 256) : C * m ≤ 16777216 := Nat.mul_le_mul hC hm

set_option maxHeartbeats 1600000 in
set_option maxRecDepth 1000000 in
theorem bounds_any (db dof L cap C : Nat) (D : Nat → Int) (w : World) (hL : L ≤ 65536) (hC : C ≤ 65536)
    (hdata : ∀ i, i < L → w.cell? ⟨db, dof + i, none⟩ = some (.int .i8 (D i))) (hD : ∀ i, i < L → -128 ≤ D i ∧ D i ≤ 127) :
    Calls Yba.prog 30 #[.slice (some ⟨db, dof, none⟩) L cap, .int .i64 C] w fun e w' => ∃ lo hi : Int, e = .returned (.tuple #[.int .i8 lo, .int .i8 hi]) ∧ w' = w ∧
      ∀ v : Int, lo ≤ v → v ≤ hi → ∃ m q : Nat, C * m = q ∧ (∀ i, i < L → -(m : Int) ≤ D i ∧ D i ≤ m) ∧ -128 + (q : Int) ≤ v ∧ v + q ≤ 127 := by
  go_enter Yba.func30, Yba.ntmps30
  go_wp2_with (first | (go_at_call 43; refine (limits_any _).mono ?_; rintro e w' ⟨rfl, hw⟩; have hw2 := hw.symm; clear hw; subst hw2) | (go_at_call 44; refine (isInteger_any _).mono ?_; rintro e w' ⟨rfl, hw⟩; have hw2 := hw.symm; clear hw; subst hw2))
  go_loopg [6, 21] L (fun g s6 s21 wx => ∃ (i m : Nat), i ≤ L ∧ g = L - i ∧ s21 = .int .i64 i ∧ s6 = .int .u64 m ∧ m ≤ 128 ∧ (∀ j, j < i → -(m : Int) ≤ D j ∧ D j ≤ m) ∧ w = wx)
  case atStart => exact ⟨0, 0, Nat.zero_le _, rfl, rfl, rfl, by omega, fun j hj => absurd hj (Nat.not_lt_zero _), rfl⟩
  case round =>
    obtain ⟨i, m, hi, rfl, rfl, rfl, hm, hb, rfl⟩ := hrel
    by_cases hil : i < L
    · have hiz : (i : Int) < (L : Int) := by omega
      have t1 := hdata i hil
      have hd := hD i hil
      have key : ∀ a m' : Nat, ((a : Int) = D i ∨ (a : Int) = -D i) → m ≤ m' → a ≤ m' → (∀ j, j < i + 1 → -(m' : Int) ≤ D j ∧ D j ≤ m') := by
        intro a m' ha h1 h2 j hj
        by_cases e : j = i
        · subst e; omega
        · have := hb j (by omega); omega
      have HK : Hid (∀ a m' : Nat, ((a : Int) = D i ∨ (a : Int) = -D i) → m ≤ m' → a ≤ m' → (∀ j, j < i + 1 → -(m' : Int) ≤ D j ∧ D j ≤ m')) := key
      clear key hb
      by_cases hneg : D i < 0
      · obtain ⟨a, ha⟩ : ∃ a : Nat, (a : Int) = -D i := ⟨(-D i).toNat, by omega⟩
        have HA : Hid ((a : Int) = -D i) := ha
        have hab : a ≤ 128 := by omega
        have c1 : IntKind.u64.wrap (-(IntKind.u64.wrap (D i))) = (a : Int) := by rw [IntKind.wrap_u64, IntKind.wrap_u64]; omega
        clear ha
        by_cases hlt : m < a
        · have hltz : (m : Int) < (a : Int) := by omega
          go_wp2_with fail
          go_roundg (L - (i + 1))
          case measure => go_light; omega
          case rel => go_light; exact ⟨i + 1, a, by omega, rfl, by go_num, rfl, hab, HK.out a a (.inr HA.out) (by omega) (by omega), rfl⟩
        · have hltz : ¬ ((m : Int) < (a : Int)) := by omega
          go_wp2_with fail
          go_roundg (L - (i + 1))
          case measure => go_light; omega
          case rel => go_light; exact ⟨i + 1, m, by omega, rfl, by go_num, rfl, hm, HK.out a m (.inr HA.out) (by omega) (by omega), rfl⟩
      · obtain ⟨a, ha⟩ : ∃ a : Nat, (a : Int) = D i := ⟨(D i).toNat, by omega⟩
        have HA : Hid ((a : Int) = D i) := ha
        have hab : a ≤ 128 := by omega
        have c1 : IntKind.u64.wrap (D i) = (a : Int) := by rw [IntKind.wrap_u64]; omega
        clear ha
        by_cases hlt : m < a
        · have hltz : (m : Int) < (a : Int) := by omega
          go_wp2_with fail
          go_roundg (L - (i + 1))
          case measure => go_light; omega
          case rel => go_light; exact ⟨i + 1, a, by omega, rfl, by go_num, rfl, hab, HK.out a a (.inl HA.out) (by omega) (by omega), rfl⟩
        · have hltz : ¬ ((m : Int) < (a : Int)) := by omega
          go_wp2_with fail
          go_roundg (L - (i + 1))
          case measure => go_light; omega
          case rel => go_light; exact ⟨i + 1, m, by omega, rfl, by go_num, rfl, hm, HK.out a m (.inl HA.out) (by omega) (by omega), rfl⟩
    · have hiz : ¬ ((i : Int) < (L : Int)) := by omega
      have hil' : L = i := by omega
      subst hil'
      have hq := prod_small C m hC (by omega)
      generalize hqq : C * m = q at hq
      have HQ : Hid (C * m = q) := hqq
      have f1 : IntKind.u64.wrap (-128) = 18446744073709551488 := by rw [IntKind.wrap_u64]; omega
      have f2 : IntKind.u64.wrap (127 - 18446744073709551488) = 255 := by rw [IntKind.wrap_u64]; omega
      have f3 : IntKind.u64.wrap (-18446744073709551361) = 255 := by rw [IntKind.wrap_u64]; omega
      clear hqq
      by_cases hbig : 127 < q
      · have hbz : (127 : Int) < (q : Int) := by omega
        go_wp2_with (go_at_call 45; refine (mul_any C m q hC (by omega) HQ.out hq _).mono ?_; rintro e w' ⟨rfl, hw⟩; have hw2 := hw.symm; clear hw; subst hw2)
        go_ret2
        exact ⟨1, 0, rfl, rfl, fun v h1 h2 => absurd h1 (by omega)⟩
      · have hbz : ¬ ((127 : Int) < (q : Int)) := by omega
        have f4 : IntKind.i8.wrap (18446744073709551488 + (q : Int)) = -128 + (q : Int) := by rw [wrap_k]; omega
        go_wp2_with (go_at_call 45; refine (mul_any C m q hC (by omega) HQ.out hq _).mono ?_; rintro e w' ⟨rfl, hw⟩; have hw2 := hw.symm; clear hw; subst hw2)
        go_ret2
        refine ⟨-128 + (q : Int), 127 - (q : Int), ?_, rfl, fun v h1 h2 => ⟨m, q, HQ.out, hb, by omega, by omega⟩⟩
        rfl

end Go.Proofs.Ybulkdloo.B
