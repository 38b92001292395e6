/-
  Law S5629B: the walk.
-/
import Derived.Test.YbulkdloaFns
import Derived.Deep.DeepCutAuto
namespace Go.Proofs.Ybulkdloa.S
open Go Go.RowKit

/-- What the walk is told of the body. -/
def Body (w : World) (a : Option Addr) (len cap : Nat) : Prop :=
  (a = none ∧ len = 0 ∧ cap = 0) ∨ ∃ (x : Addr) (zs : List Int), a = some x ∧ zs.length = len ∧ len ≤ 140737488355328 ∧ ∀ i, i < len → w.cell? (x.add i) = some (.int .u8 (zs.getD i 0))

/-- The cells of the Error that the law builds. -/
structure Err (w : World) (pb : Nat) (st : Int) (b : Value) (k ty ti de : ByteArray) : Prop where
  c0 : w.cell? ⟨pb, 0, none⟩ = some (.int .i64 st)
  c1 : w.cell? ⟨pb, 1, none⟩ = some (.map none)
  c2 : w.cell? ⟨pb, 2, none⟩ = some b
  c3 : w.cell? ⟨pb, 3, none⟩ = some (.string k)
  c4 : w.cell? ⟨pb, 4, none⟩ = some (.string ty)
  c5 : w.cell? ⟨pb, 5, none⟩ = some (.string ti)
  c6 : w.cell? ⟨pb, 6, none⟩ = some (.string de)

theorem err_below {w w' : World} {pb : Nat} {st : Int} {b : Value} {k ty ti de : ByteArray} (h : Err w pb st b k ty ti de) (hB : Below w.heap.size w w') : Err w' pb st b k ty ti de := by
  have hlt : pb < w.heap.size := World.block_lt_of_cell? _ _ h.c0
  have hc : ∀ o, w'.cell? ⟨pb, o, none⟩ = w.cell? ⟨pb, o, none⟩ := fun o => hB.cell (p := ⟨pb, o, none⟩) hlt
  exact ⟨by rw [hc]; exact h.c0, by rw [hc]; exact h.c1, by rw [hc]; exact h.c2, by rw [hc]; exact h.c3, by rw [hc]; exact h.c4, by rw [hc]; exact h.c5, by rw [hc]; exact h.c6⟩

set_option maxHeartbeats 1600000 in
set_option maxRecDepth 1000000 in
theorem law (st0 : Int) (sel : Int) (kd : ByteArray) (ksel : Int) (ty ti de : ByteArray) (a : Option Addr) (len cap : Nat) (ip : Bool) (w : World) (hsel : 0 ≤ sel ∧ sel ≤ 255) (hksel : 0 ≤ ksel ∧ ksel ≤ 255) (hb : Body w a len cap) :
    Calls Yba.prog 3 #[.int .i64 st0, .int .u8 sel, .string kd, .int .u8 ksel, .string ty, .string ti, .string de, .slice a len cap, .bool ip] w fun e w' => e = .returned (.bool true) ∧ Below w.heap.size w w' := by
  obtain ⟨s1, rfl⟩ := Int.eq_ofNat_of_zero_le hsel.1
  obtain ⟨s2, rfl⟩ := Int.eq_ofNat_of_zero_le hksel.1
  have hs1 : s1 ≤ 255 := by omega
  have hs2 : s2 ≤ 255 := by omega
  clear hsel hksel
  go_enter Yba.func3, Yba.ntmps3
  go_upto_if 28 with fail
  go_cut [19] (fun s19 wx => w = wx ∧ ∃ v : Int, s19 = .int .i64 v)
  case first =>
    go_wp2_with (go_at_call 4; refine (status_any _ _).mono ?_; rintro e w' ⟨v, rfl, rfl⟩)
    all_goals (go_meet; go_light; exact ⟨rfl, _, rfl⟩)
  case rest =>
    obtain ⟨rfl, st, rfl⟩ := hcut
    go_upto_if 36 with fail
    go_cut [20] (fun s20 wx => w = wx ∧ ∃ k : ByteArray, s20 = .string k)
    case first =>
      go_wp2_with (go_at_call 5; refine (kind_any _ _).mono ?_; rintro e w' ⟨v, rfl, rfl⟩)
      all_goals (go_meet; go_light; exact ⟨rfl, _, rfl⟩)
    case rest =>
      obtain ⟨rfl, k, rfl⟩ := hcut
      rcases hb with ⟨rfl, rfl, rfl⟩ | ⟨x, zs, rfl, hz, hl, hc⟩
      · go_wp2_with (go_at_call 6; refine (clone_nil _).mono ?_; rintro e w' ⟨rfl, hw⟩; have hw2 := hw.symm; clear hw; subst hw2)
        refine (retried_any w.heap.size st k ip _ ?_ ?_).mono ?_
        · simp
        · simp
        rintro e w1 ⟨rfl, hw1⟩
        have hE1 : Err w1 w.heap.size st (.slice none 0 0) k ty ti de := by rw [hw1]; exact ⟨by simp, by simp, by simp, by simp, by simp, by simp, by simp⟩
        have hB1 : Below w.heap.size w w1 := by rw [hw1]; exact (Below.refl _ _).alloc (Nat.le_refl _) _
        clear hw1
        go_wp2_with fail
        refine (model_any st k ip w1).mono ?_
        rintro e w2 ⟨rfl, hB2⟩
        have hE2 := err_below hE1 hB2
        have hB3 := hB1.trans (hB2.mono hB1.size)
        clear hE1 hB1 hB2
        obtain ⟨c0, c1, c2, c3, c4, c5, c6⟩ := hE2
        have hm := fun w' : World => run_neq_map_nil (P := Yba.prog) w' 29 _ _ none Yba.underlying29
        have hn := fun w' : World => Lib.run_eql_slice_nil (P := Yba.prog) w' 22 5 none 0 0 0 0 Yba.underlying22
        have hcv := run_convert_bytes_nil (P := Yba.prog) w2 22 5 Yba.underlying22 Yba.underlying5 0 0 9 Yba.underlying9
        go_wp2_with (go_at_call 9; refine (equal_true _ _ ByteArray.empty w2 hcv hcv).mono ?_; rintro e w' ⟨rfl, hw⟩; have hw2 := hw.symm; clear hw; subst hw2)
        go_ret
        exact ⟨rfl, hB3⟩
      · go_wp2_with (go_at_call 6; refine (clone_some x len cap zs _ hl hz hc).mono ?_; rintro e w0 ⟨g, cp, rfl, hg, hB, hk⟩)
        refine (retried_any w0.heap.size st k ip _ ?_ ?_).mono ?_
        · simp
        · simp
        rintro e w1 ⟨rfl, hw1⟩
        have hE1 : Err w1 w0.heap.size st (.slice (some x) len cap) k ty ti de := by rw [hw1]; exact ⟨by simp, by simp, by simp, by simp, by simp, by simp, by simp⟩
        have hB0 : Below w0.heap.size w0 w1 := by rw [hw1]; exact (Below.refl _ _).alloc (Nat.le_refl _) _
        clear hw1
        go_wp2_with fail
        refine (model_any st k ip w1).mono ?_
        rintro e w2 ⟨rfl, hB2⟩
        have hE2 := err_below hE1 hB2
        have hB02 := hB0.trans (hB2.mono hB0.size)
        have hB3 := hB.trans (hB02.mono hB.size)
        clear hE1 hB0 hB2
        obtain ⟨c0, c1, c2, c3, c4, c5, c6⟩ := hE2
        have hm := fun w' : World => run_neq_map_nil (P := Yba.prog) w' 29 _ _ none Yba.underlying29
        have hn := fun w' : World => Lib.run_eql_slice_nil (P := Yba.prog) w' 22 5 (some x) len cap 0 0 Yba.underlying22
        have hn2 := fun w' : World => Lib.run_eql_slice_nil (P := Yba.prog) w' 22 5 (some ⟨g, 0, none⟩) len cp 0 0 Yba.underlying22
        have hcv := conv_some x len cap zs w2 hz (fun i hi => by rw [hB3.cell (World.block_lt_of_cell? _ _ (hc i hi))]; exact hc i hi)
        have hcv2 := conv_some ⟨g, 0, none⟩ len cp zs w2 hz (fun i hi => by rw [Addr.add_lit, Nat.zero_add, hB02.cell (World.block_lt_of_cell? _ _ (hk i hi))]; exact hk i hi)
        go_wp2_with (go_at_call 9; refine (equal_true _ _ (strOfNums zs) w2 hcv hcv2).mono ?_; rintro e w' ⟨rfl, hw⟩; have hw2 := hw.symm; clear hw; subst hw2)
        go_ret
        exact ⟨rfl, hB3⟩
end Go.Proofs.Ybulkdloa.S
