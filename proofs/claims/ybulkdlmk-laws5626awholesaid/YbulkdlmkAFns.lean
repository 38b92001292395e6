/-
  Law A's callees: IsNaN, IsInf, zzs5626asame, zzs5626alast, secondsFor.
-/
import Derived.Test.YbulkdlmkRows
import Derived.Test.YbulkdlmkAMap
import Derived.Test.YbulkdlmkAFloat
import Derived.Deep.LoopGhost
import Derived.Deep.Light
import Derived.Outline
import Derived.WalkLawsBesides
import Derived.WalkSpells
namespace Go.Proofs.Ybulkdlmk.A
open Go Go.RowKit Go.Deep Go.Proofs.Ybulkdlmk.Lib Go.Proofs.Ybulkdlmk.Fl

attribute [local go_sem] run_store_float

theorem toList_inj {a b : ByteArray} (h : a.toList = b.toList) : a = b := by
  rw [ByteArray.toList_eq, ByteArray.toList_eq] at h
  exact ByteArray.ext (Array.ext' h)

theorem fbits (b : Nat) (w : World) : (callFunc 8 #[.float .f64 b]).run Yba.prog w = .ok (.value (.int .u64 (b : Int))) w := by
  rw [run_callFunc_extern Yba.func8 (by kernel_rfl) (by kernel_rfl) (by kernel_rfl) (e := Extern.MathFloatBits.float64bits) (by kernel_rfl)]
  rfl

theorem neq_self (x : Nat) : (FloatKind.f64.format.order x x != some .eq) = nan x := by
  have := order_self x
  simp only [bne, this, Bool.not_not]

theorem isNaN_any (x : Nat) (w : World) : Calls Yba.prog 11 #[.float .f64 x] w fun e w' => e = .returned (.bool (nan x)) ∧ w' = w := by
  go_enter Yba.func11, Yba.ntmps11
  go_wp2
  go_ret
  exact ⟨by rw [neq_self]; rfl, rfl⟩

def tooBig (x : Nat) : Bool := FloatKind.f64.format.order x 9218868437227405311 == some .gt

theorem isInf_any (x : Nat) (w : World) : Calls Yba.prog 10 #[.float .f64 x, .int .i64 1] w fun e w' => e = .returned (.bool (tooBig x)) ∧ w' = w := by
  go_enter Yba.func10, Yba.ntmps10
  go_wp2
  go_ret
  exact ⟨rfl, rfl⟩

theorem same_true (x y : Nat) (h : Same x y) (w : World) : Calls Yba.prog 7 #[.float .f64 x, .float .f64 y] w fun e w' => e = .returned (.bool true) ∧ w' = w := by
  have hxy := same_nan h
  have fb := fbits
  cases hn : nan x with
  | true =>
    have hn' : nan y = true := by rw [← hxy]; exact hn
    clear hxy h
    go_enter Yba.func7, Yba.ntmps7
    go_wp2_with (go_at_call 11; refine (isNaN_any _ _).mono ?_; rintro e w' ⟨rfl, rfl⟩)
    go_ret
    exact ⟨rfl, rfl⟩
  | false =>
    have hn' : nan y = false := by rw [← hxy]; exact hn
    obtain rfl : x = y := by
      rcases h with h | ⟨h, _⟩
      · exact h
      · rw [hn] at h; cases h
    clear hxy h hn'
    go_enter Yba.func7, Yba.ntmps7
    go_wp2_with (go_at_call 11; refine (isNaN_any _ _).mono ?_; rintro e w' ⟨rfl, rfl⟩)
    go_ret
    exact ⟨rfl, rfl⟩

/-- The price of the last of the first k entries that names s. -/
def lastTo (C : Nat → ByteArray) (U : Nat → Nat) (s : ByteArray) : Nat → Option Nat
  | 0 => none
  | k + 1 => if C k = s then some (U k) else lastTo C U s k

theorem last_any (a : Option Addr) (len cap eb eo : Nat) (C : Nat → ByteArray) (U : Nat → Nat) (s : ByteArray) (w : World) (hlen : len ≤ 4096)
    (hE : ∀ i, i < len → a = some ⟨eb, eo, none⟩ ∧ w.cell? ⟨eb, eo + i * 2, none⟩ = some (.string (C i)) ∧ w.cell? ⟨eb, eo + i * 2 + 1, none⟩ = some (.float .f64 (U i))) :
    Calls Yba.prog 6 #[.slice a len cap, .string s] w fun e w' => e = .returned (.tuple #[.float .f64 ((lastTo C U s len).getD 0), .bool (lastTo C U s len).isSome]) ∧ w' = w := by
  go_enter Yba.func6, Yba.ntmps6
  go_wp2_with fail
  go_loopg [6] len (fun g s6 wx => ∃ (k : Nat), k ≤ len ∧ k = g ∧ s6 = .int .i64 ((k : Int) - 1) ∧ w = wx ∧ Hid (lastTo C U s len = lastTo C U s k))
  case atStart => exact ⟨len, Nat.le_refl _, rfl, rfl, rfl, rfl⟩
  case round =>
    obtain ⟨k, hk, rfl, rfl, rfl, HL⟩ := hrel
    cases k with
    | zero =>
      go_wp2
      go_ret2
      exact ⟨by rw [HL.out]; rfl, rfl⟩
    | succ j =>
      have ej : ((j + 1 : Nat) : Int) - 1 = (j : Int) := by omega
      rw [ej]
      clear ej
      have hjl : (j : Int) < (len : Int) := by omega
      obtain ⟨ha, t1, t2⟩ := hE j (by omega)
      subst ha
      by_cases hc : C j = s
      · have hb : ((C j).toList == s.toList) = true := by rw [hc]; simp
        have HC : Hid (C j = s) := hc
        clear hc
        go_wp2
        go_ret2
        exact ⟨by rw [HL.out]; simp [lastTo, HC.out], rfl⟩
      · have hb : ((C j).toList == s.toList) = false := by
          rw [beq_eq_false_iff_ne]; intro h; exact hc (toList_inj h)
        go_wp2
        go_roundg j
        case measure => go_light; omega
        case rel => go_light; exact ⟨j, by omega, rfl, by go_num, rfl, by unfold Hid; rw [HL.out]; simp [lastTo, hc]⟩

/-- 'seconds' of secondsFor, at a price p. -/
def Sec (u p r : Nat) : Prop := ∃ a d, Step .mul u 4660134898793709568 a ∧ Step .quo a p d ∧ ((tooBig d = true ∧ ∃ q, Step .quo 4660134898793709568 p q ∧ Step .mul u q r) ∨ (tooBig d = false ∧ r = d))

theorem sec_same {u p r r' : Nat} (h : Sec u p r) (h' : Sec u p r') : Same r r' := by
  obtain ⟨a, d, h1, h2, h3⟩ := h
  obtain ⟨a', d', h1', h2', h3'⟩ := h'
  have e1 := step_same (same_refl _) (same_refl _) h1 h1'
  have e2 := step_same e1 (same_refl _) h2 h2'
  have e3 : tooBig d = tooBig d' := gt_same _ e2
  rcases h3 with ⟨g, q, h4, h5⟩ | ⟨g, rfl⟩
  · rcases h3' with ⟨_, q', h4', h5'⟩ | ⟨g', _⟩
    · exact step_same (same_refl _) (step_same (same_refl _) (same_refl _) h4 h4') h5 h5'
    · rw [e3, g'] at g; cases g
  · rcases h3' with ⟨g', _⟩ | ⟨_, rfl⟩
    · rw [e3, g'] at g; cases g
    · exact e2

theorem zero23 (w : World) : (zeroValue 23).run Yba.prog w = .ok (.float .f64 0) w := by kernel_rfl

set_option maxHeartbeats 800000 in
theorem secondsFor_any (pb B : Nat) (L : List (ByteArray × Nat)) (s : ByteArray) (u : Nat) (w : World) (hp : w.cell? ⟨pb, 0, none⟩ = some (.map (some B))) (hm : IsMap w B L) :
    Calls Yba.prog 5 #[.pointer (some ⟨pb, 0, none⟩), .string s, .float .f64 u] w fun e w' => ∃ r d, e = .returned (.tuple #[.float .f64 r, .bool (get s L).isSome]) ∧ Sec u ((get s L).getD 0) r ∧ w' = w.drewN d := by
  have hl := run_look (P := Yba.prog) hm Yba.underlying24 Yba.underlying9 zero23 s
  obtain ⟨v, hv⟩ : ∃ v, v = (get s L).getD 0 := ⟨_, rfl⟩
  obtain ⟨k, hk⟩ : ∃ k, k = (get s L).isSome := ⟨_, rfl⟩
  rw [← hv, ← hk] at hl ⊢
  clear hv hk hm
  go_enter Yba.func5, Yba.ntmps5
  go_wp2_with (first
    | (refine wpList_float _ rfl .mul (by simp) 23 23 (.tmp 20) _ rfl u 4660134898793709568 rfl rfl ?_; intro a d1 h1)
    | (refine wpList_float _ rfl .quo (by simp) 23 23 (.tmp 21) (.tmp 22) rfl _ v rfl rfl ?_; intro d d2 h2)
    | fail)
  refine (isInf_any d _).mono ?_
  rintro e w' ⟨rfl, rfl⟩
  cases hb : tooBig d with
  | true =>
    go_wp2_with (first
      | (refine wpList_float _ rfl .quo (by simp) 23 23 _ (.tmp 27) rfl 4660134898793709568 v rfl rfl ?_; intro q d3 h3)
      | (refine wpList_float _ rfl .mul (by simp) 23 23 (.tmp 26) (.tmp 28) rfl u _ rfl rfl ?_; intro r d4 h4)
      | fail)
    go_ret2
    exact ⟨_, _, rfl, ⟨a, d, h1, h2, .inl ⟨hb, _, h3, h4⟩⟩, rfl⟩
  | false =>
    go_wp2_with fail
    go_ret2
    exact ⟨_, _, rfl, ⟨a, d, h1, h2, .inr ⟨hb, rfl⟩⟩, rfl⟩
end Go.Proofs.Ybulkdlmk.A
