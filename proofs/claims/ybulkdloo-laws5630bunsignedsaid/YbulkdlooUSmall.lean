/-
  Law BUnsigned's callees: the yield, slices.Clone, slices.Equal, stepping, the model.
-/
import Derived.Test.YbulkdlooUFns
import Derived.Test.YbulkdlooBPlain
import Derived.Deep.DeepCutAuto
import Derived.Test.YbulkdlooCParts
namespace Go.Proofs.Ybulkdloo.U
open Go Go.RowKit Go.Deep Go.Proofs.Ybulkdloo.BP

theorem infoK : (Yba.prog.info? 5).map (fun i => (i.zero, i.size, i.bytes)) = some (some (.int .u8 0), 1, 1) := by kernel_rfl
theorem info3 : (Yba.prog.info? 3).map (fun i => (i.zero, i.size, i.bytes)) = some (some (.int .i64 0), 1, 8) := by kernel_rfl

theorem yield_any (x : Int) (gc : Nat) (xs : List Value) (w wx : World) (hG : Got w wx gc 5 xs) (hn : xs.length < 600) :
    Calls Yba.prog 14 #[.int .u8 x, .pointer (some ⟨gc, 0, none⟩)] wx fun e w' => e = .returned (.bool (decide (xs.length + 1 < 600))) ∧ Got w w' gc 5 (xs ++ [.int .u8 x]) := by
  obtain ⟨v, hv, ho⟩ := hG.own
  obtain ⟨a, cap, rfl⟩ := owns_slice ho
  obtain ⟨i0, hi, hz0, hz1, hz2⟩ := info_parts infoK
  generalize hxn : xs.length = n at hv ho hn
  go_enter Yba.func14, Yba.ntmps14
  go_wp2_with (at_builtin; refine wpList_append_own _ rfl (.tmp 4) (.tmp 6) 33 rfl w.heap.size 5 i0 (.int .u8 0) 1 1 Yba.underlying33 hi hz0 hz1 hz2 rfl (by decide) _ n xs rfl (ho.alloc _) ⟨wx.heap.size, 0, none⟩ 1 1 [.int .u8 x] rfl ?c1 ?c2 ?c3 ?c4 ?c5 ?c6 ?_)
  case c1 => rfl
  case c2 =>
    intro j u hj
    match j, hj with
    | 0, hj =>
      simp at hj
      subst hj
      rw [Addr.add_lit]
      exact C.cell_new _ _ _ rfl
    | j + 1, hj => simp at hj
  case c3 => intro u hu; simp at hu; subst hu; rfl
  case c4 => unfold maxLen; omega
  case c5 => omega
  case c6 => have := hG.size; simp; omega
  intro v' w1 hown hgrow _
  obtain ⟨a', cap', rfl⟩ := owns_slice hown
  subst hxn
  have hown' : w1.ownsRow w.heap.size 5 1 (.slice a' (xs.length + 1) cap') (xs ++ [Value.int .u8 x]).length (xs ++ [Value.int .u8 x]) := by
    rw [List.length_append]; exact hown
  obtain ⟨hG', hc, hf⟩ := hG.push ho hown' hgrow
  have t1 := hc _ hv
  clear hc hown hown' ho hv hgrow
  have HG : Hid (Got w (w1.setCell ⟨gc, 0, none⟩ (.slice a' (xs.length + 1) cap')) gc 5 (xs ++ [.int .u8 x])) := hG'
  clear hG' hG
  go_wp2
  go_ret
  refine ⟨?_, HG.out⟩
  show Ending.returned (.bool (decide ((xs.length : Int) + 1 < 600))) = _
  have e : decide ((xs.length : Int) + 1 < 600) = decide (xs.length + 1 < 600) := by rw [decide_eq_decide]; omega
  rw [e]

theorem clone_any (a : Option Addr) (len cap db dof : Nat) (Z : Nat → Int) (w : World) (hl : len ≤ 65536) (hnil : a = none → cap = 0)
    (hdata : ∀ i, i < len → a = some ⟨db, dof, none⟩ ∧ w.cell? ⟨db, dof + i, none⟩ = some (.int .u8 (Z i))) :
    Calls Yba.prog 12 #[.slice a len cap] w fun e w' => ∃ a' cp, e = .returned (.slice a' len cp) ∧ Below w.heap.size w w' ∧ ∀ i, i < len → ∃ g, a' = some ⟨g, 0, none⟩ ∧ w.heap.size ≤ g ∧ ∀ i, i < len → w'.cell? ⟨g, i, none⟩ = some (.int .u8 (Z i)) := by
  have hn := fun w' : World => Lib.run_eql_slice_nil (P := Yba.prog) w' 33 5 a len cap 0 0 Yba.underlying33
  cases a with
  | none =>
    obtain rfl := hnil rfl
    obtain rfl : len = 0 := by
      rcases Nat.eq_zero_or_pos len with h | h
      · exact h
      · obtain ⟨h, _⟩ := hdata 0 h; cases h
    go_enter Yba.func12, Yba.ntmps12
    go_wp2
    go_ret
    exact ⟨⟨_, _, rfl⟩, Below.refl _ _⟩
  | some x =>
    obtain ⟨i0, hi, hz0, hz1, hz2⟩ := info_parts infoK
    have hc : ∀ j, j < len → w.cell? (x.add j) = some (.int .u8 (Z j)) := fun j hj => by
      obtain ⟨h1, h2⟩ := hdata j hj
      simp only [Option.some.injEq] at h1
      rw [h1, Addr.add_lit]; exact h2
    clear hdata hnil
    go_enter Yba.func12, Yba.ntmps12
    go_wp2_with (at_builtin; refine wpList_append_own _ rfl (.tmp 5) (.tmp 6) 33 rfl w.heap.size 5 i0 (.int .u8 0) 1 1 Yba.underlying33 hi hz0 hz1 hz2 rfl (by decide) _ 0 [] rfl (World.ownsRow_made w #[] 0 (Nat.le_refl _) (Nat.zero_le _) rfl) x len cap (row .u8 Z len) rfl ?c1 ?c2 ?c3 ?c4 ?c5 ?c6 ?_)
    case c1 => simp [row_length]
    case c2 =>
      intro j u hj
      have hjl : j < len := by
        have := (List.getElem?_eq_some_iff.1 hj).1
        simpa [row_length] using this
      rw [row_at _ _ hjl] at hj
      simp only [Option.some.injEq] at hj
      subst hj
      have hlt := World.block_lt_of_cell? _ _ (hc j hjl)
      rw [World.cell?_alloc_old _ _ _ (by omega)]
      exact hc j hjl
    case c3 => intro u hu; simp only [row, List.mem_map] at hu; obtain ⟨_, _, rfl⟩ := hu; rfl
    case c4 => unfold maxLen; omega
    case c5 => omega
    case c6 => simp
    intro v' w1 hown hgrow hnil
    obtain ⟨a', cap', rfl⟩ := owns_slice hown
    clear hnil
    go_wp2
    go_ret
    refine ⟨a', cap', rfl, ((Below.refl _ _).alloc (Nat.le_refl _) _).grown hgrow (by simp) (by intro k hk; simp [Value.ownBlock] at hk; omega), fun i hi => ?_⟩
    obtain ⟨g, rfl, hg, _, _, hcell⟩ := owned_cells hown hi
    exact ⟨g, rfl, hg, fun i hi => hcell i _ (by simp [row_at _ _ hi])⟩

theorem stepping_any (n start : Int) (a : Option Addr) (l c : Nat) (w : World) :
    Calls Yba.prog 13 #[.int .i64 n, .int .u8 start, .slice a l c] w fun e w' =>
      e = .returned (.func (Fn.func 33) #[] #[.pointer (some ⟨w.heap.size + 2, 0, none⟩), .pointer (some ⟨w.heap.size, 0, none⟩), .pointer (some ⟨w.heap.size + 1, 0, none⟩)]) ∧
      w' = ((w.alloc (.cells #[.int .i64 n] 3)).alloc (.cells #[.int .u8 start] 5)).alloc (.cells #[.slice a l c] 33) := by
  go_enter Yba.func13, Yba.ntmps13
  go_wp2
  go_ret
  exact ⟨rfl, rfl⟩

theorem equal_any (a b : Option Addr) (len ca cb xb xo yb yo : Nat) (Z : Nat → Int) (w : World) (hl : len ≤ 65536)
    (h1 : ∀ i, i < len → a = some ⟨xb, xo, none⟩ ∧ w.cell? ⟨xb, xo + i, none⟩ = some (.int .u8 (Z i))) (h2 : ∀ i, i < len → b = some ⟨yb, yo, none⟩ ∧ w.cell? ⟨yb, yo + i, none⟩ = some (.int .u8 (Z i))) :
    Calls Yba.prog 15 #[.slice a len ca, .slice b len cb] w fun e w' => e = .returned (.bool true) ∧ ∃ d, w' = w.drewN d := by
  go_enter Yba.func15, Yba.ntmps15
  go_wp2_with fail
  go_loopg [13] len (fun g s13 wx => ∃ (i d : Nat), i ≤ len ∧ g = len - i ∧ s13 = .int .i64 i ∧ wx = w.drewN d)
  case atStart => exact ⟨0, 0, Nat.zero_le _, rfl, rfl, rfl⟩
  case round =>
    obtain ⟨i, d, hi, rfl, rfl, rfl⟩ := hrel
    by_cases hil : i < len
    · have hiz : (i : Int) < (len : Int) := by omega
      obtain ⟨ha, t1⟩ := h1 i hil
      obtain ⟨hb, t2⟩ := h2 i hil
      subst ha hb
      go_wp2_with fail
      go_quiet (fail)
      go_wp2_with fail
      go_roundg (len - (i + 1))
      case measure => go_light; omega
      case rel => go_light; exact ⟨i + 1, _, by omega, rfl, by go_num, by first | rfl | simp⟩
    · have hiz : ¬ ((i : Int) < (len : Int)) := by omega
      go_wp2
      go_ret
      exact ⟨rfl, d, rfl⟩

set_option maxHeartbeats 1600000 in
set_option maxRecDepth 1000000 in
theorem model_any (n start : Int) (ib L0 L : Nat) (D : Nat → Int) (w : World) (hl : L0 ≤ 65536) (hs : 0 ≤ start ∧ start ≤ 255)
    (hL : (0 < L0 ∧ L = L0) ∨ (L0 = 0 ∧ L = 1 ∧ D 0 = 1)) (hdata : ∀ i, i < L0 → w.cell? ⟨ib, i, none⟩ = some (.int .i64 (D i))) (hD : ∀ i, i < L → 0 ≤ D i ∧ D i ≤ 255) :
    Calls Yba.prog 8 #[.int .i64 n, .int .i64 start, .slice (some ⟨ib, 0, none⟩) L0 L0, .int .i64 0, .int .i64 255, .int .i64 600] w fun e w' => ∃ a K, (∃ cap, e = .returned (.slice a K cap)) ∧ Below w.heap.size w w' ∧
      EndsAt n 0 255 (V start D L) K ∧ ∀ i, i < K → ∃ g, a = some ⟨g, 0, none⟩ ∧ w.heap.size ≤ g ∧ ∀ i, i < K → w'.cell? ⟨g, i, none⟩ = some (.int .i64 (V start D L i)) := by
  have hLp : 0 < L := by omega
  have hLb : L ≤ 65536 := by omega
  obtain ⟨i0, hi, hz0, hz1, hz2⟩ := info_parts info3
  go_enter Yba.func8, Yba.ntmps8
  go_upto_if 20 with fail
  go_cut [2] (fun s2 wx => ∃ sb, s2 = .slice (some ⟨sb, 0, none⟩) L L ∧ (∀ i, i < L → wx.cell? ⟨sb, i, none⟩ = some (.int .i64 (D i))) ∧ Below w.heap.size w wx)
  case first =>
    rcases hL with ⟨hp, rfl⟩ | ⟨rfl, rfl, h1⟩
    · have hz : ((L : Int) == 0) = false := by rw [beq_eq_false_iff_ne]; omega
      go_wp2_with fail
      go_meet
      go_light
      exact ⟨ib, rfl, hdata, Below.refl _ _⟩
    · go_wp2_with fail
      go_meet
      go_light
      refine ⟨w.heap.size, rfl, fun i hi => ?_, (Below.refl _ _).alloc (Nat.le_refl _) _⟩
      obtain rfl : i = 0 := by omega
      rw [h1]
      exact C.cell_new _ _ _ rfl
  case rest =>
    obtain ⟨sb, rfl, hrow, hB⟩ := hcut
    clear hdata hL
    go_wp2_with fail
    go_loopg [13, 14, 15] 600 (fun g s13 s14 s15 wx => ∃ (k cap : Nat) (a : Option Addr), k ≤ 600 ∧ g = 600 - k ∧ s13 = .slice a k cap ∧ s14 = .int .i64 (V start D L k) ∧ s15 = .int .i64 k ∧
      wx.ownsRow wc.heap.size 3 1 (.slice a k cap) k (row .i64 (V start D L) k) ∧ wc.Since wc.heap.size wx ∧ Upto n 0 255 (V start D L) k ∧ 0 ≤ V start D L k ∧ V start D L k ≤ 255)
    case atStart => exact ⟨0, 0, none, by omega, rfl, rfl, rfl, rfl, World.ownsRow_nil _ _ _ _, World.Since.refl _ _, upto_zero, hs.1, hs.2⟩
    case round =>
      obtain ⟨k, cap, a, hk, rfl, rfl, rfl, rfl, hown, hS, hU, hlo, hhi⟩ := hrel
      have fin : ∀ (a' : Option Addr) (K cap' : Nat) (w' : World), w'.ownsRow wc.heap.size 3 1 (.slice a' K cap') K (row .i64 (V start D L) K) → ∀ i, i < K → ∃ g, a' = some ⟨g, 0, none⟩ ∧ w.heap.size ≤ g ∧ ∀ i, i < K → w'.cell? ⟨g, i, none⟩ = some (.int .i64 (V start D L i)) := by
        intro a' K cap' w' ho i hi
        obtain ⟨g, rfl, hg, _, _, hcell⟩ := owned_cells ho hi
        have := hB.size
        exact ⟨g, rfl, by omega, fun i hi => hcell i _ (row_at _ _ hi)⟩
      have FIN := (show Hid _ from fin)
      clear fin
      generalize hx : V start D L k = x at hlo hhi
      have HX : Hid (V start D L k = x) := hx
      have HU : Hid (Upto n 0 255 (V start D L) k) := hU
      clear hx hU
      go_upto_region 6 with fail
      go_cut [36] (fun s36 wx => s36 = .bool (decide (k < 600 ∧ (n < 0 ∨ (k : Int) < n))) ∧ wr = wx)
      case first =>
        by_cases hk6 : k < 600
        · have hk6z : (k : Int) < 600 := by omega
          by_cases hn : n < 0
          · go_wp2_with fail
            go_meet
            go_light
            exact ⟨congrArg Value.bool (decide_eq_true ⟨hk6, .inl hn⟩).symm, rfl⟩
          · by_cases hkn : (k : Int) < n
            · go_wp2_with fail
              go_meet
              go_light
              exact ⟨congrArg Value.bool (decide_eq_true ⟨hk6, .inr hkn⟩).symm, rfl⟩
            · go_wp2_with fail
              go_meet
              go_light
              exact ⟨congrArg Value.bool (decide_eq_false (fun h => by omega)).symm, rfl⟩
        · have hk6z : ¬ ((k : Int) < 600) := by omega
          go_wp2_with fail
          go_meet
          go_light
          exact ⟨congrArg Value.bool (decide_eq_false (fun h => by omega)).symm, rfl⟩
      case rest =>
        obtain ⟨rfl, rfl⟩ := hcut
        by_cases hc : k < 600 ∧ (n < 0 ∨ (k : Int) < n)
        · rw [decide_eq_true hc]
          obtain ⟨j, hj, ej, HJ⟩ : ∃ j : Nat, j < L ∧ (k : Int) % (L : Int) = (j : Int) ∧ Hid (k % L = j) := ⟨k % L, Nat.mod_lt _ hLp, by simp, (rfl : k % L = k % L)⟩
          have hLz : ((L : Int) == 0) = false := by rw [beq_eq_false_iff_ne]; omega
          have hd := hD j hj
          have HF : Hid (Fine n 0 255 (V start D L) k) := ⟨hc.1, hc.2, by rw [HX.out]; exact hlo, by rw [HX.out]; exact hhi⟩
          have hk6 := hc.1
          have hcs := hS.size
          clear hc
          go_wp2_with (at_builtin; refine wpList_append_own _ rfl (.tmp 37) (.tmp 39) 25 rfl wc.heap.size 3 i0 (.int .i64 0) 1 8 Yba.underlying25 hi hz0 hz1 hz2 rfl (by decide) _ k (row .i64 (V start D L) k) rfl (hown.alloc _) ⟨wr.heap.size, 0, none⟩ 1 1 [.int .i64 x] rfl ?c1 ?c2 ?c3 ?c4 ?c5 ?c6 ?_)
          case c1 => rfl
          case c2 =>
            intro j u hj
            match j, hj with
            | 0, hj =>
              simp at hj
              subst hj
              rw [Addr.add_lit]
              exact C.cell_new _ _ _ rfl
            | j + 1, hj => simp at hj
          case c3 => intro u hu; simp at hu; subst hu; rfl
          case c4 => unfold maxLen; omega
          case c5 => omega
          case c6 => simp; omega
          intro v' w1 hown' hgrow _
          have hown1 : w1.ownsRow wc.heap.size 3 1 v' (k + 1) (row .i64 (V start D L) (k + 1)) := by
            rw [← row_succ, HX.out]; exact hown'
          clear hown'
          obtain ⟨a', cap', rfl⟩ := owns_slice hown1
          have hS1 : wc.Since wc.heap.size w1 := (hS.alloc (by omega) _).grown hgrow (by simp; omega) (fun b hb => (hown.lt b hb).1)
          have t1 : w1.cell? ⟨sb, j, none⟩ = some (.int .i64 (D j)) := by
            rw [hS1.cell (a := ⟨sb, j, none⟩) (World.block_lt_of_cell? _ _ (hrow j hj))]; exact hrow j hj
          have HO : Hid (w1.ownsRow wc.heap.size 3 1 (.slice a' (k + 1) cap') (k + 1) (row .i64 (V start D L) (k + 1))) := hown1
          have hU1 := upto_succ HU.out HF.out
          have HU1 : Hid (Upto n 0 255 (V start D L) (k + 1)) := hU1
          have HV : Hid (V start D L (k + 1) = x + D j) := by
            show V start D L k + D (k % L) = _
            rw [HX.out, HJ.out]
          clear hown1 hgrow hown hS hU1
          have HB : Hid (Below w.heap.size w w1) := hB.trans ⟨hS1.os, hS1.tape, hS1.output, hS1.size, fun b hb => hS1.block b (by have := hB.size; omega)⟩
          by_cases hlo1 : x + D j < 0
          · exact absurd hlo1 (by omega)
          · by_cases hhi1 : 255 < x + D j
            · go_wp2_with fail
              go_ret
              exact ⟨a', k + 1, ⟨cap', rfl⟩, HB.out, ⟨HU1.out, fun h => by have := h.2.2.2; rw [HV.out] at this; omega⟩, FIN.out a' (k + 1) cap' w1 HO.out⟩
            · go_wp2_with fail
              go_roundg (600 - (k + 1))
              case measure => go_light; omega
              case rel => go_light; exact ⟨k + 1, cap', a', by omega, rfl, rfl, by rw [HV.out], by go_num, HO.out, hS1, HU1.out, by rw [HV.out]; omega, by rw [HV.out]; omega⟩
        · rw [decide_eq_false hc]
          have HB : Hid (Below w.heap.size w wr) := hB.trans ⟨hS.os, hS.tape, hS.output, hS.size, fun b hb => hS.block b (by have := hB.size; omega)⟩
          go_wp2_with fail
          go_ret
          exact ⟨a, k, ⟨cap, rfl⟩, HB.out, ⟨HU.out, fun h => hc ⟨h.1, h.2.1⟩⟩, FIN.out a k cap wr hown⟩

end Go.Proofs.Ybulkdloo.U
