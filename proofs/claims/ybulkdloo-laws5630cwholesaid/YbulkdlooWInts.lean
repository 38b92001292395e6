/-
  Law CWhole's callees: 'Sum', the sequence, slices.Clone and slices.Equal, over int64 and over strings. (Typed once, turned to the second element by program.)
-/
import Derived.Test.YbulkdlooRows
import Derived.Test.YbulkdlooCParts
import Derived.Test.YbulkdlooBPlain
import Derived.Deep.LoopGhost
import Derived.Deep.Light
import Derived.Outline
import Derived.WalkLawsBesides
import Derived.WalkSpells
import Derived.Laws.EntriesVeiled
import Derived.BigRegion
import Derived.BigQuiet
namespace Go.Proofs.Ybulkdloo.W
open Go Go.RowKit Go.Deep Go.Proofs.Ybulkdloo.C Go.Proofs.Ybulkdloo.BP

/-- The wrapping sum. -/
def SI (F : Nat → Int) : Nat → Int
  | 0 => 0
  | k + 1 => wrap64 (SI F k + F k)

/-- The strings joined. -/
def SS (F : Nat → ByteArray) : Nat → ByteArray
  | 0 => ByteArray.empty
  | k + 1 => SS F k ++ F k

theorem size_SS (F : Nat → ByteArray) (k : Nat) : (SS F (k + 1)).size = (SS F k).size + (F k).size := by
  show (SS F k ++ F k).size = _
  simp [ByteArray.size_append]

theorem size_mono (F : Nat → ByteArray) : ∀ n k, k ≤ n → (SS F k).size ≤ (SS F n).size
  | 0, k, h => by
    obtain rfl : k = 0 := by omega
    exact Nat.le_refl _
  | n + 1, k, h => by
    by_cases e : k = n + 1
    · subst e; exact Nat.le_refl _
    · have := size_mono F n k (by omega)
      rw [size_SS]; omega

theorem info2 : (Yba.prog.info? 2).map (fun i => (i.zero, i.size, i.bytes)) = some (some (.int .i64 0), 1, 8) := by kernel_rfl
theorem info9 : (Yba.prog.info? 9).map (fun i => (i.zero, i.size, i.bytes)) = some (some (.string ByteArray.empty), 1, 16) := by kernel_rfl
theorem info5 : (Yba.prog.info? 5).map (fun i => (i.zero, i.size, i.bytes)) = some (some (.int .u8 0), 1, 1) := by kernel_rfl

theorem yieldI (v s : Int) (sb : Nat) (w : World) (h1 : w.cell? ⟨sb, 0, none⟩ = some (.int .i64 s)) (h2 : w.frozen? ⟨sb, 0, none⟩ = false) :
    Calls Yba.prog 37 #[.int .i64 v, .pointer (some ⟨sb, 0, none⟩)] w fun e w' => e = .returned (.bool true) ∧ w' = w.setCell ⟨sb, 0, none⟩ (.int .i64 (wrap64 (s + v))) := by
  go_enter Yba.func37, Yba.ntmps37
  go_wp2
  go_ret
  exact ⟨rfl, rfl⟩

theorem seqI (a : Option Addr) (cb xb fbx cc sb N o len cap : Nat) (F : Nat → Int) (w : World) (hlen : len ≤ 1048576)
    (h1 : w.cell? ⟨cb, 0, none⟩ = some (.pointer (some ⟨cc, 0, none⟩))) (h2 : w.cell? ⟨cc, 0, none⟩ = some (.int .i64 0)) (h2f : w.frozen? ⟨cc, 0, none⟩ = false)
    (h3 : w.cell? ⟨xb, 0, none⟩ = some (.slice a len cap)) (h4 : ∀ i, i < len → a = some ⟨N, o, none⟩ ∧ w.cell? ⟨N, o + i, none⟩ = some (.int .i64 (F i)))
    (h5 : w.cell? ⟨sb, 0, none⟩ = some (.int .i64 0)) (h5f : w.frozen? ⟨sb, 0, none⟩ = false)
    (_d1 : cc ≠ cb) (d2 : cc ≠ xb) (d3 : cc ≠ N) (d4 : cc ≠ sb) (d5 : sb ≠ xb) (d6 : sb ≠ N) (d7 : sb ≠ cb) :
    Calls Yba.prog 38 #[.func (Fn.func 37) #[] #[.pointer (some ⟨sb, 0, none⟩)], .pointer (some ⟨cb, 0, none⟩), .pointer (some ⟨xb, 0, none⟩), .pointer (some ⟨fbx, 0, none⟩)] w fun e w' =>
      e = .returned (.tuple #[]) ∧ Two w w' cc sb (.int .i64 1) (.int .i64 (SI F len)) := by
  go_enter Yba.func38, Yba.ntmps38
  go_wp2_with fail
  go_big_region
  go_wp2_with fail
  have hT : Two w (w.setCell ⟨cc, 0, none⟩ (.int .i64 1)).drew cc sb (.int .i64 1) (.int .i64 0) := (Two.set1 (Two.start h2 h2f h5 h5f) d4 _).drewN 1
  go_loopg [5] len (fun g s5 wx => ∃ (i : Nat), i ≤ len ∧ g = len - i ∧ s5 = .int .i64 i ∧ Two w wx cc sb (.int .i64 1) (.int .i64 (SI F i)))
  case atStart => exact ⟨0, Nat.zero_le _, rfl, rfl, hT⟩
  case round =>
    clear hT
    obtain ⟨i, hi, rfl, rfl, hT⟩ := hrel
    have t1 : wr.cell? ⟨xb, 0, none⟩ = some (.slice a len cap) := by rw [hT.cell (p := ⟨xb, 0, none⟩) (by simp; omega) (by simp; omega)]; exact h3
    by_cases hil : i < len
    · have hiz : (i : Int) < (len : Int) := by omega
      obtain ⟨ha, hc⟩ := h4 i hil
      subst ha
      have t2 : wr.cell? ⟨N, o + i, none⟩ = some (.int .i64 (F i)) := by rw [hT.cell (p := ⟨N, o + i, none⟩) (by simp; omega) (by simp; omega)]; exact hc
      have hy := yieldI (F i) (SI F i) sb wr hT.c2 hT.f2
      go_wp2_with (go_at_call 37; refine hy.mono ?_; rintro e w' ⟨rfl, rfl⟩)
      go_roundg (len - (i + 1))
      case measure => go_light; omega
      case rel => go_light; exact ⟨i + 1, by omega, rfl, by go_num, hT.set2 d4 _⟩
    · have hiz : ¬ ((i : Int) < (len : Int)) := by omega
      obtain rfl : len = i := by omega
      go_wp2
      go_end0
      exact ⟨rfl, hT⟩

theorem sumI (a : Option Addr) (cb xb fbx cc N o len cap : Nat) (F : Nat → Int) (w : World) (hlen : len ≤ 1048576)
    (h1 : w.cell? ⟨cb, 0, none⟩ = some (.pointer (some ⟨cc, 0, none⟩))) (h2 : w.cell? ⟨cc, 0, none⟩ = some (.int .i64 0)) (h2f : w.frozen? ⟨cc, 0, none⟩ = false)
    (h3 : w.cell? ⟨xb, 0, none⟩ = some (.slice a len cap)) (h4 : ∀ i, i < len → a = some ⟨N, o, none⟩ ∧ w.cell? ⟨N, o + i, none⟩ = some (.int .i64 (F i))) (hN : N < w.heap.size)
    (d1 : cc ≠ cb) (d2 : cc ≠ xb) (d3 : cc ≠ N) :
    Calls Yba.prog 18 #[.func (Fn.func 38) #[] #[.pointer (some ⟨cb, 0, none⟩), .pointer (some ⟨xb, 0, none⟩), .pointer (some ⟨fbx, 0, none⟩)]] w fun e w' =>
      e = .returned (.int .i64 (SI F len)) ∧ Two (w.alloc (.cells #[.int .i64 0] 2)) w' cc w.heap.size (.int .i64 1) (.int .i64 (SI F len)) := by
  have old : ∀ (p : Addr) (v : Value), w.cell? p = some v → p.block ≠ w.heap.size ∧ ∀ o, (w.alloc o).cell? p = some v := fun p v h => by
    have hlt := World.block_lt_of_cell? _ _ h
    exact ⟨by omega, fun o => by rw [World.cell?_alloc_old _ _ _ (by omega)]; exact h⟩
  obtain ⟨n1, o1⟩ := old _ _ h1
  obtain ⟨n2, o2⟩ := old _ _ h2
  obtain ⟨n3, o3⟩ := old _ _ h3
  simp only at n1 n2 n3
  go_enter Yba.func18, Yba.ntmps18
  go_wp2_with fail
  refine (seqI a cb xb fbx cc w.heap.size N o len cap F _ hlen (o1 _) (o2 _) ?_ (o3 _) (fun i hi => ⟨(h4 i hi).1, (old _ _ (h4 i hi).2).2 _⟩) (cell_new _ _ _ rfl) (frozen_new _ _ _ rfl) d1 d2 d3 (by omega) (by omega) (by omega) (by omega)).mono ?_
  · rw [World.frozen?_alloc_old _ _ _ n2]; exact h2f
  rintro e w1 ⟨rfl, hT⟩
  have c2 := hT.c2
  go_wp2_with fail
  go_ret
  exact ⟨rfl, hT⟩

theorem mkI (a : Option Addr) (l c : Nat) (p q : Addr) (w : World) :
    Calls Yba.prog 19 #[.slice a l c, .pointer (some p), .pointer (some q)] w fun e w' =>
      e = .returned (.func (Fn.func 38) #[] #[.pointer (some ⟨w.heap.size + 1, 0, none⟩), .pointer (some ⟨w.heap.size, 0, none⟩), .pointer (some ⟨w.heap.size + 2, 0, none⟩)]) ∧
      w' = ((w.alloc (.cells #[.slice a l c] 41)).alloc (.cells #[.pointer (some p)] 49)).alloc (.cells #[.pointer (some q)] 49) := by
  go_enter Yba.func19, Yba.ntmps19
  go_wp2
  go_ret
  exact ⟨rfl, rfl⟩

def rowI (Z : Nat → Int) (n : Nat) : List Value := (List.range n).map fun i => .int .i64 (Z i)
theorem rowI_at (Z : Nat → Int) {n j : Nat} (h : j < n) : (rowI Z n)[j]? = some (.int .i64 (Z j)) := by simp [rowI, h]

theorem cloneI (a : Option Addr) (len cap db dof : Nat) (Z : Nat → Int) (w : World) (hl : len ≤ 1048576) (hnil : a = none → cap = 0)
    (hdata : ∀ i, i < len → a = some ⟨db, dof, none⟩ ∧ w.cell? ⟨db, dof + i, none⟩ = some (.int .i64 (Z i))) :
    Calls Yba.prog 16 #[.slice a len cap] w fun e w' => ∃ a' cp, e = .returned (.slice a' len cp) ∧ Below w.heap.size w w' ∧ ∀ i, i < len → ∃ g, a' = some ⟨g, 0, none⟩ ∧ w.heap.size ≤ g ∧ ∀ i, i < len → w'.cell? ⟨g, i, none⟩ = some (.int .i64 (Z i)) := by
  have hn := fun w' : World => Lib.run_eql_slice_nil (P := Yba.prog) w' 41 2 a len cap 0 0 Yba.underlying41
  cases a with
  | none =>
    obtain rfl := hnil rfl
    obtain rfl : len = 0 := by
      rcases Nat.eq_zero_or_pos len with h | h
      · exact h
      · obtain ⟨h, _⟩ := hdata 0 h; cases h
    go_enter Yba.func16, Yba.ntmps16
    go_wp2
    go_ret
    exact ⟨⟨_, _, rfl⟩, Below.refl _ _⟩
  | some x =>
    obtain ⟨i0, hi, hz0, hz1, hz2⟩ := info_parts info2
    have hc : ∀ j, j < len → w.cell? (x.add j) = some (.int .i64 (Z j)) := fun j hj => by
      obtain ⟨h1, h2⟩ := hdata j hj
      simp only [Option.some.injEq] at h1
      rw [h1, Addr.add_lit]; exact h2
    clear hdata hnil
    go_enter Yba.func16, Yba.ntmps16
    go_wp2_with (at_builtin; refine wpList_append_own _ rfl (.tmp 5) (.tmp 6) 41 rfl w.heap.size 2 i0 (.int .i64 0) 1 8 Yba.underlying41 hi hz0 hz1 hz2 rfl (by decide) _ 0 [] rfl (World.ownsRow_made w #[] 0 (Nat.le_refl _) (Nat.zero_le _) rfl) x len cap (rowI Z len) rfl ?c1 ?c2 ?c3 ?c4 ?c5 ?c6 ?_)
    case c1 => simp [rowI]
    case c2 =>
      intro j u hj
      have hjl : j < len := by
        have := (List.getElem?_eq_some_iff.1 hj).1
        simpa [rowI] using this
      rw [rowI_at _ hjl] at hj
      simp only [Option.some.injEq] at hj
      subst hj
      have hlt := World.block_lt_of_cell? _ _ (hc j hjl)
      rw [World.cell?_alloc_old _ _ _ (by omega)]
      exact hc j hjl
    case c3 => intro u hu; simp only [rowI, List.mem_map] at hu; obtain ⟨_, _, rfl⟩ := hu; rfl
    case c4 => unfold maxLen; omega
    case c5 => omega
    case c6 => simp
    intro v' w1 hown hgrow hnil
    obtain ⟨a', cap', rfl⟩ := owns_slice hown
    clear hnil
    go_wp2
    go_ret
    refine ⟨a', cap', rfl, ((Below.refl _ _).alloc (Nat.le_refl _) _).grown hgrow (by simp) (by intro k hk; simp [Value.ownBlock] at hk; omega), fun i hi => ?_⟩
    obtain ⟨g, rfl, hg, _, _, hcell⟩ := owned_cells hown hi
    exact ⟨g, rfl, hg, fun i hi => hcell i _ (by simp [rowI_at _ hi])⟩

theorem equalI (a b : Option Addr) (len ca cb xb xo yb yo : Nat) (Z : Nat → Int) (w : World) (hl : len ≤ 1048576)
    (h1 : ∀ i, i < len → a = some ⟨xb, xo, none⟩ ∧ w.cell? ⟨xb, xo + i, none⟩ = some (.int .i64 (Z i))) (h2 : ∀ i, i < len → b = some ⟨yb, yo, none⟩ ∧ w.cell? ⟨yb, yo + i, none⟩ = some (.int .i64 (Z i))) :
    Calls Yba.prog 22 #[.slice a len ca, .slice b len cb] w fun e w' => e = .returned (.bool true) ∧ ∃ d, w' = w.drewN d := by
  go_enter Yba.func22, Yba.ntmps22
  go_wp2_with fail
  go_loopg [13] len (fun g s13 wx => ∃ (i d : Nat), i ≤ len ∧ g = len - i ∧ s13 = .int .i64 i ∧ wx = w.drewN d)
  case atStart => exact ⟨0, 0, Nat.zero_le _, rfl, rfl, rfl⟩
  case round =>
    obtain ⟨i, d, hi, rfl, rfl, rfl⟩ := hrel
    by_cases hil : i < len
    · have hiz : (i : Int) < (len : Int) := by omega
      obtain ⟨ha, t1⟩ := h1 i hil
      obtain ⟨hb, t2⟩ := h2 i hil
      subst ha hb
      generalize Z i = z at t1 t2
      go_wp2_with fail
      go_quiet (fail)
      go_wp2_with fail
      go_roundg (len - (i + 1))
      case measure => go_light; omega
      case rel => go_light; exact ⟨i + 1, _, by omega, rfl, by go_num, by first | rfl | simp⟩
    · have hiz : ¬ ((i : Int) < (len : Int)) := by omega
      go_wp2
      go_ret
      exact ⟨rfl, d, rfl⟩

end Go.Proofs.Ybulkdloo.W
