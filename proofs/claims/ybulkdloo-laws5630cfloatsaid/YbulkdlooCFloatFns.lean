/-
  'Sum' over float64 values: the yield, the sequence, Sum itself.
-/
import Derived.Test.YbulkdlooRows
import Derived.Test.YbulkdlooCParts
import Derived.Test.YbulkdlooFloat
import Derived.Deep.LoopGhost
import Derived.Deep.Light
import Derived.Outline
import Derived.WalkLawsBesides
import Derived.WalkSpells
import Derived.Laws.EntriesVeiled
import Derived.BigRegion
namespace Go.Proofs.Ybulkdloo.CF
open Go Go.RowKit Go.Deep Go.Proofs.Ybulkdloo.C Go.Proofs.Ybulkdloo.Fl

theorem run_store_float {P : Program} {w : World} {a : Addr} {m : Mode} (k : FloatKind) (n : Nat) : (store a (.float k n) m).run P w = stored P w a (.float k n) m := run_store P w a _ m rfl
attribute [local go_sem] run_store_float

def SumTo (F : Nat → Nat) : Nat → Nat → Prop
  | 0, z => z = 0
  | k + 1, z => ∃ y, SumTo F k y ∧ Step .add y (F k) z

theorem sum_same (F : Nat → Nat) : ∀ (k z z' : Nat), SumTo F k z → SumTo F k z' → Same z z'
  | 0, z, z', h, h' => by unfold SumTo at h h'; rw [h, h']; exact same_refl _
  | k + 1, z, z', ⟨y, h1, h2⟩, ⟨y', h1', h2'⟩ => step_same (sum_same F k y y' h1 h1') (same_refl _) h2 h2'

theorem yield_any (v s sb : Nat) (w : World) (h1 : w.cell? ⟨sb, 0, none⟩ = some (.float .f64 s)) (h2 : w.frozen? ⟨sb, 0, none⟩ = false) :
    Calls Yba.prog 41 #[.float .f64 v, .pointer (some ⟨sb, 0, none⟩)] w fun e w' => ∃ z d, e = .returned (.bool true) ∧ Step .add s v z ∧ w' = (w.setCell ⟨sb, 0, none⟩ (.float .f64 z)).drewN d := by
  go_enter Yba.func41, Yba.ntmps41
  go_wp2_with (refine wpList_float _ rfl .add (by simp) 59 59 (.tmp 4) (.tmp 5) rfl s v rfl rfl ?_; intro z d h)
  go_ret
  exact ⟨z, d, rfl, h, by first | rfl | simp⟩

theorem seq_any (cb xb fbx cc sb N len : Nat) (F : Nat → Nat) (w : World) (hlen : len ≤ 1048576)
    (h1 : w.cell? ⟨cb, 0, none⟩ = some (.pointer (some ⟨cc, 0, none⟩))) (h2 : w.cell? ⟨cc, 0, none⟩ = some (.int .i64 0)) (h2f : w.frozen? ⟨cc, 0, none⟩ = false)
    (h3 : w.cell? ⟨xb, 0, none⟩ = some (.slice (some ⟨N, 0, none⟩) len len)) (h4 : ∀ i, i < len → w.cell? ⟨N, i, none⟩ = some (.float .f64 (F i)))
    (h5 : w.cell? ⟨sb, 0, none⟩ = some (.float .f64 0)) (h5f : w.frozen? ⟨sb, 0, none⟩ = false)
    (_d1 : cc ≠ cb) (d2 : cc ≠ xb) (d3 : cc ≠ N) (d4 : cc ≠ sb) (d5 : sb ≠ xb) (d6 : sb ≠ N) (d7 : sb ≠ cb) :
    Calls Yba.prog 42 #[.func (Fn.func 41) #[] #[.pointer (some ⟨sb, 0, none⟩)], .pointer (some ⟨cb, 0, none⟩), .pointer (some ⟨xb, 0, none⟩), .pointer (some ⟨fbx, 0, none⟩)] w fun e w' =>
      e = .returned (.tuple #[]) ∧ ∃ z, SumTo F len z ∧ Two w w' cc sb (.int .i64 1) (.float .f64 z) := by
  go_enter Yba.func42, Yba.ntmps42
  go_wp2_with fail
  go_big_region
  go_wp2_with fail
  have hT : Two w (w.setCell ⟨cc, 0, none⟩ (.int .i64 1)).drew cc sb (.int .i64 1) (.float .f64 0) := (Two.set1 (Two.start h2 h2f h5 h5f) d4 _).drewN 1
  go_loopg [5] len (fun g s5 wx => ∃ (i z : Nat), i ≤ len ∧ g = len - i ∧ s5 = .int .i64 i ∧ SumTo F i z ∧ Two w wx cc sb (.int .i64 1) (.float .f64 z))
  case atStart => exact ⟨0, 0, Nat.zero_le _, rfl, rfl, rfl, hT⟩
  case round =>
    clear hT
    obtain ⟨i, z, hi, rfl, rfl, HS, hT⟩ := hrel
    have t1 : wr.cell? ⟨xb, 0, none⟩ = some (.slice (some ⟨N, 0, none⟩) len len) := by rw [hT.cell (p := ⟨xb, 0, none⟩) (by simp; omega) (by simp; omega)]; exact h3
    have A : Hid (SumTo F i z) := HS
    clear HS
    by_cases hil : i < len
    · have hiz : (i : Int) < (len : Int) := by omega
      have t2 : wr.cell? ⟨N, i, none⟩ = some (.float .f64 (F i)) := by rw [hT.cell (p := ⟨N, i, none⟩) (by simp; omega) (by simp; omega)]; exact h4 i hil
      go_wp2_with (go_at_call 41; refine (yield_any (F i) z sb _ hT.c2 hT.f2).mono ?_; rintro e w' ⟨z', d, rfl, hst, rfl⟩)
      go_roundg (len - (i + 1))
      case measure => go_light; omega
      case rel => go_light; exact ⟨i + 1, z', by omega, rfl, by go_num, ⟨z, A.out, hst⟩, (hT.set2 d4 _).drewN d⟩
    · have hiz : ¬ ((i : Int) < (len : Int)) := by omega
      have hil' : len = i := by omega
      subst hil'
      go_wp2
      go_end0
      exact ⟨rfl, z, A.out, hT⟩

theorem sum_any (cb xb fbx cc N len : Nat) (F : Nat → Nat) (w : World) (hlen : len ≤ 1048576)
    (h1 : w.cell? ⟨cb, 0, none⟩ = some (.pointer (some ⟨cc, 0, none⟩))) (h2 : w.cell? ⟨cc, 0, none⟩ = some (.int .i64 0)) (h2f : w.frozen? ⟨cc, 0, none⟩ = false)
    (h3 : w.cell? ⟨xb, 0, none⟩ = some (.slice (some ⟨N, 0, none⟩) len len)) (h4 : ∀ i, i < len → w.cell? ⟨N, i, none⟩ = some (.float .f64 (F i))) (hN : N < w.heap.size)
    (d1 : cc ≠ cb) (d2 : cc ≠ xb) (d3 : cc ≠ N) :
    Calls Yba.prog 25 #[.func (Fn.func 42) #[] #[.pointer (some ⟨cb, 0, none⟩), .pointer (some ⟨xb, 0, none⟩), .pointer (some ⟨fbx, 0, none⟩)]] w fun e w' =>
      ∃ z, e = .returned (.float .f64 z) ∧ SumTo F len z ∧ Two (w.alloc (.cells #[.float .f64 0] 59)) w' cc w.heap.size (.int .i64 1) (.float .f64 z) := by
  have old : ∀ (p : Addr) (v : Value), w.cell? p = some v → p.block ≠ w.heap.size ∧ ∀ o, (w.alloc o).cell? p = some v := fun p v h => by
    have hlt := World.block_lt_of_cell? _ _ h
    exact ⟨by omega, fun o => by rw [World.cell?_alloc_old _ _ _ (by omega)]; exact h⟩
  obtain ⟨n1, o1⟩ := old _ _ h1
  obtain ⟨n2, o2⟩ := old _ _ h2
  obtain ⟨n3, o3⟩ := old _ _ h3
  simp only at n1 n2 n3
  go_enter Yba.func25, Yba.ntmps25
  go_wp2_with fail
  refine (seq_any cb xb fbx cc w.heap.size N len F _ hlen (o1 _) (o2 _) ?_ (o3 _) (fun i hi => (old _ _ (h4 i hi)).2 _) (by simp) (by simp) d1 d2 d3 (by omega) (by omega) (by omega) (by omega)).mono ?_
  · rw [World.frozen?_alloc_old _ _ _ n2]; exact h2f
  rintro e w1 ⟨rfl, z, hz, hT⟩
  have c2 := hT.c2
  have A : Hid (SumTo F len z) := hz
  clear hz
  go_wp2_with fail
  go_ret
  exact ⟨z, rfl, A.out, hT⟩
end Go.Proofs.Ybulkdloo.CF
