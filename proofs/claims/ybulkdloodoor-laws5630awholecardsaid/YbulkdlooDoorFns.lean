/-
  Law A's callees: the source's Read, bufio's Size, Buffered, readErr, Read, NewReader; NewLineReader.
-/
import Derived.Test.YbulkdlooDoorRows
import Derived.Test.YbulkdlooDoorSt
import Derived.Deep.LoopGhost
import Derived.Deep.Light
import Derived.Deep.QuietTactic
import Derived.BigQuiet
import Derived.BigRegion
import Derived.Deep.RegionWith
import Derived.Deep.DeepCutAuto
import Derived.Outline
import Derived.WalkLawsBesides
import Derived.WalkSpells
import Derived.LaidEql
namespace Go.Proofs.YbulkdlooDoor.A
open Go Go.RowKit Go.Deep Go.Proofs.YbulkdlooDoor.Lib

theorem info5s : (Ybad.prog.info? 5).map (·.size) = some 1 := by kernel_rfl

theorem srcRead_eof (sb bb n c : Nat) (te : TypeId) (ea : Addr) (pa : Option Addr) (pl pc : Nat) (w : World) (h0 : w.cell? ⟨sb, 0, none⟩ = some (.slice (some ⟨bb, 0, none⟩) n n)) (h1 : w.cell? ⟨sb, 1, none⟩ = some (.int .i64 n))
    (h2 : w.cell? ⟨sb, 2, none⟩ = some (.int .i64 c)) (f2 : w.frozen? ⟨sb, 2, none⟩ = false) (hc : c ≤ 1099511627776) (hg : w.cell? ⟨0, 0, none⟩ = some (.iface te (.pointer (some ea)))) :
    Calls Ybad.prog 27 #[.pointer (some ⟨sb, 0, none⟩), .slice pa pl pc] w fun e w' => ∃ d, e = .returned (.tuple #[.int .i64 0, .iface te (.pointer (some ea))]) ∧ w' = (w.setCell ⟨sb, 2, none⟩ (.int .i64 ((c : Int) + 1))).drewN d := by
  go_enter Ybad.func27, Ybad.ntmps27
  go_wp2_with fail
  go_quiet (fail)
  go_wp2_with fail
  go_quiet (fail)
  go_wp2_with fail
  go_ret2
  exact ⟨_, rfl, World.drewN_drewN _ _ _⟩

theorem srcRead_some (sb bb cb n off c M : Nat) (Z : Nat → Int) (G : Nat → Value) (w : World) (h0 : w.cell? ⟨sb, 0, none⟩ = some (.slice (some ⟨bb, 0, none⟩) n n)) (h1 : w.cell? ⟨sb, 1, none⟩ = some (.int .i64 off))
    (h2 : w.cell? ⟨sb, 2, none⟩ = some (.int .i64 c)) (f1 : w.frozen? ⟨sb, 1, none⟩ = false) (f2 : w.frozen? ⟨sb, 2, none⟩ = false) (hc : c ≤ 1099511627776) (hn : n ≤ 1048576) (ho : off < n) (hM : M ≤ 1048576)
    (hb : ∀ j, j < n → w.cell? ⟨bb, j, none⟩ = some (.int .u8 (Z j))) (hrow : w.rowIs cb 5 M G) (d1 : sb ≠ bb) (d2 : sb ≠ cb) (d3 : bb ≠ cb) :
    Calls Ybad.prog 27 #[.pointer (some ⟨sb, 0, none⟩), .slice (some ⟨cb, 0, none⟩) M M] w fun e w' => ∃ (k d : Nat) (w2 : World), k = Nat.min (n - off) M ∧ e = .returned (.tuple #[.int .i64 k, .nilIface]) ∧
      w' = (w2.setCell ⟨sb, 1, none⟩ (.int .i64 ((off : Int) + k))).drewN d ∧ w2.rowIs cb 5 M (fun j => if j < k then .int .u8 (Z (off + j)) else G j) ∧ (w.setCell ⟨sb, 2, none⟩ (.int .i64 ((c : Int) + 1))).grownBy w2 (some cb) ∧ w2.heap.size = w.heap.size := by
  go_enter Ybad.func27, Ybad.ntmps27
  go_wp2_with fail
  obtain ⟨W, hW⟩ : ∃ W, W = w.setCell ⟨sb, 2, none⟩ (.int .i64 ((c : Int) + 1)) := ⟨_, rfl⟩
  rw [← hW]
  have k0 : W.cell? ⟨sb, 0, none⟩ = some (.slice (some ⟨bb, 0, none⟩) n n) := by rw [hW, World.cell?_setCell_other _ _ _ _ (by simp)]; exact h0
  have k1 : W.cell? ⟨sb, 1, none⟩ = some (.int .i64 off) := by rw [hW, World.cell?_setCell_other _ _ _ _ (by simp)]; exact h1
  have kf : W.frozen? ⟨sb, 1, none⟩ = false := by rw [hW]; simpa using f1
  have kb : ∀ j, j < n → W.cell? ⟨bb, j, none⟩ = some (.int .u8 (Z j)) := fun j hj => by
    rw [hW, World.cell?_setCell_other _ _ _ _ (fun e => by have := congrArg Addr.block e; simp at this; omega)]; exact hb j hj
  have kr : W.rowIs cb 5 M G := by rw [hW]; exact hrow.setOther (by show cb ≠ sb; omega) _
  have ks : W.heap.size = w.heap.size := by rw [hW, nblk_setCell]
  have HW : Hid (W = w.setCell ⟨sb, 2, none⟩ (.int .i64 ((c : Int) + 1))) := hW
  clear hW
  go_quiet (fail)
  have hlt : (off : Int) < (n : Int) := by omega
  have hofn : ¬ n = off := by omega
  obtain ⟨k, hk⟩ : ∃ k, k = Nat.min (n - off) M := ⟨_, rfl⟩
  have hk1 : k ≤ n - off := by rw [hk]; exact Nat.min_le_left _ _
  have hk2 : k ≤ M := by rw [hk]; exact Nat.min_le_right _ _
  obtain ⟨w2, hcopy, hr2, hg2, hs2⟩ := run_copy_rows (P := Ybad.prog) W 22 22 3 5 Ybad.underlying22 info5s cb 0 M M M G kr ⟨bb, off, none⟩ (n - off) (n - off) k (fun j => .int .u8 (Z (off + j))) hk
    (fun j hj => by rw [Addr.add_lit]; exact kb (off + j) (by omega)) (fun _ _ => rfl) (by omega)
  have q1 : w2.cell? ⟨sb, 1, none⟩ = some (.int .i64 off) := by rw [World.cell?_of_block (w := W) (hg2.block sb (World.block_lt_of_cell? _ _ k1) (by simp; omega))]; exact k1
  have qf : w2.frozen? ⟨sb, 1, none⟩ = false := by rw [World.frozen?_of_block (w := W) (hg2.block sb (World.block_lt_of_cell? _ _ k1) (by simp; omega))]; exact kf
  clear kr
  have HK : Hid (k = Nat.min (n - off) M) := hk
  clear hk
  go_wp2_with fail
  go_big_region
  go_wp2_with fail
  go_ret2
  refine ⟨k, nq + 1, w2, HK.out, rfl, rfl, hr2.congr (fun j _ => by simp), by rw [← HW.out]; exact hg2, by rw [hs2, ks]⟩

theorem readErr_any (rb : Nat) (te : TypeId) (ea : Addr) (w : World) (h : w.cell? ⟨rb, 4, none⟩ = some (.iface te (.pointer (some ea)))) (hf : w.frozen? ⟨rb, 4, none⟩ = false) :
    Calls Ybad.prog 9 #[.pointer (some ⟨rb, 0, none⟩)] w fun e w' => e = .returned (.iface te (.pointer (some ea))) ∧ w' = w.setCell ⟨rb, 4, none⟩ .nilIface := by
  go_enter Ybad.func9, Ybad.ntmps9
  go_wp2
  go_ret
  exact ⟨rfl, rfl⟩

theorem size_any (rb cb M : Nat) (w : World) (h : w.cell? ⟨rb, 0, none⟩ = some (.slice (some ⟨cb, 0, none⟩) M M)) :
    Calls Ybad.prog 5 #[.pointer (some ⟨rb, 0, none⟩)] w fun e w' => e = .returned (.int .i64 M) ∧ w' = w := by
  go_enter Ybad.func5, Ybad.ntmps5
  go_wp2
  go_ret
  exact ⟨rfl, rfl⟩

theorem buffered_zero (rb : Nat) (w : World) (h : w.cell? ⟨rb, 2, none⟩ = some (.int .i64 0)) (h' : w.cell? ⟨rb, 3, none⟩ = some (.int .i64 0)) :
    Calls Ybad.prog 6 #[.pointer (some ⟨rb, 0, none⟩)] w fun e w' => e = .returned (.int .i64 0) ∧ ∃ d, w' = w.drewN d := by
  go_enter Ybad.func6, Ybad.ntmps6
  go_wp2_with fail
  go_quiet (fail)
  go_wp2_with fail
  go_ret
  exact ⟨rfl, _, rfl⟩

end Go.Proofs.YbulkdlooDoor.A
