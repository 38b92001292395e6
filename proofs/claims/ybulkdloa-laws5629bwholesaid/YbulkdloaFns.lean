/-
  Law S5629B's callees.
-/
import Derived.Test.YbulkdloaRows
import Derived.WalkKit
import Derived.Deep.LoopGhost
import Derived.Deep.Light
import Derived.Outline
import Derived.WalkLawsBesides
import Derived.WalkSpells
namespace Go.Proofs.Ybulkdloa.S
open Go Go.RowKit

set_option maxHeartbeats 800000 in
theorem status_any (i : Int) (w : World) : Calls Yba.prog 4 #[.int .i64 i] w fun e w' => ∃ v : Int, e = .returned (.int .i64 v) ∧ w' = w := by
  go_enter Yba.func4, Yba.ntmps4
  go_wp2
  all_goals (go_ret; exact ⟨_, rfl, rfl⟩)

set_option maxHeartbeats 800000 in
theorem kind_any (i : Int) (w : World) : Calls Yba.prog 5 #[.int .i64 i] w fun e w' => ∃ s : ByteArray, e = .returned (.string s) ∧ w' = w := by
  go_enter Yba.func5, Yba.ntmps5
  go_wp2
  all_goals (go_ret; exact ⟨_, rfl, rfl⟩)

theorem info5 : (Yba.prog.info? 5).map (fun i => (i.zero, i.size, i.bytes)) = some (some (.int .u8 0), 1, 1) := by kernel_rfl

/-- What an owned row holds, cell by cell. -/
theorem owned_cells {w : World} {base : Nat} {e : TypeId} {v : Value} {n : Nat} {xs : List Value} (h : w.ownsRow base e 1 v n xs) (hv : ¬ v = .slice none 0 0) :
    ∃ g cap, v = .slice (some ⟨g, 0, none⟩) n cap ∧ base ≤ g ∧ n ≤ cap ∧ ∀ j u, xs[j]? = some u → w.cell? ⟨g, j, none⟩ = some u := by
  rcases h.2 with ⟨h0, _⟩ | ⟨g, cap, cur, h0, h1, h2, h3, h4, h5, h6⟩
  · exact absurd h0 hv
  · refine ⟨g, cap, h0, h1, h3, fun j u hj => ?_⟩
    have := h.cells (g := g) (by rw [h0]; rfl) j u hj
    rwa [Addr.add_lit, Nat.zero_add] at this

/-- 'bytes.Clone' of a slice that is not nil. -/
theorem clone_some (x : Addr) (len cap : Nat) (zs : List Int) (w : World) (hl : len ≤ 140737488355328) (hz : zs.length = len) (hc : ∀ i, i < len → w.cell? (x.add i) = some (.int .u8 (zs.getD i 0))) :
    Calls Yba.prog 6 #[.slice (some x) len cap] w fun e w' => ∃ g cp, e = .returned (.slice (some ⟨g, 0, none⟩) len cp) ∧ w.heap.size ≤ g ∧ Below w.heap.size w w' ∧ ∀ i, i < len → w'.cell? ⟨g, i, none⟩ = some (.int .u8 (zs.getD i 0)) := by
  have hn := fun w' : World => Lib.run_eql_slice_nil (P := Yba.prog) w' 22 5 (some x) len cap 0 0 Yba.underlying22
  obtain ⟨i0, hi, hz0, hz1, hz2⟩ := info_parts info5
  go_enter Yba.func6, Yba.ntmps6
  go_wp2_with (at_builtin; refine wpList_append_own _ rfl (.tmp 5) (.tmp 6) 22 rfl w.heap.size 5 i0 (.int .u8 0) 1 1 Yba.underlying22 hi hz0 hz1 hz2 rfl (by decide) _ 0 [] rfl (World.ownsRow_made w #[] 0 (Nat.le_refl _) (Nat.zero_le _) rfl) x len cap (zs.map (Value.int .u8)) rfl ?c1 ?c2 ?c3 ?c4 ?c5 ?c6 ?_)
  case c1 => simp [hz]
  case c2 =>
    intro j u hj
    have hjl : j < zs.length := by
      have := (List.getElem?_eq_some_iff.1 hj).1
      simpa using this
    have e : u = .int .u8 (zs.getD j 0) := by simpa [hjl, List.getD] using hj.symm
    rw [e]
    have hlt : (x.add j).block < w.heap.size := World.block_lt_of_cell? _ _ (hc j (by omega))
    rw [World.cell?_alloc_old _ _ _ (by show (x.add j).block ≠ w.heap.size; omega)]
    exact hc j (by omega)
  case c3 => exact ints_oneCell _ _
  case c4 => unfold maxLen; omega
  case c5 => omega
  case c6 => simp
  intro v' w1 hown hgrow hnil
  obtain ⟨g, cp, hv', hg, hcp, hcell⟩ := owned_cells hown hnil
  clear hnil hown
  rw [hv']
  go_wp2
  go_ret
  refine ⟨g, cp, rfl, hg, ((Below.refl _ _).alloc (Nat.le_refl _) _).grown hgrow (by simp) (by intro k hk; simp [Value.ownBlock] at hk; omega), fun i hi => ?_⟩
  exact hcell i _ (by simp [List.getD, show i < zs.length by omega])

theorem clone_nil (w : World) : Calls Yba.prog 6 #[.slice none 0 0] w fun e w' => e = .returned (.slice none 0 0) ∧ w' = w := by
  have hn := fun w' : World => Lib.run_eql_slice_nil (P := Yba.prog) w' 22 5 none 0 0 0 0 Yba.underlying22
  go_enter Yba.func6, Yba.ntmps6
  go_wp2
  go_ret
  exact ⟨rfl, rfl⟩

/-- 'bytes.Equal' of two slices that hold one string. -/
theorem equal_true (u v : Value) (s : ByteArray) (w : World) (h1 : (convert 22 9 u).run Yba.prog w = .ok (.string s) w) (h2 : (convert 22 9 v).run Yba.prog w = .ok (.string s) w) :
    Calls Yba.prog 9 #[u, v] w fun e w' => e = .returned (.bool true) ∧ w' = w := by
  go_enter Yba.func9, Yba.ntmps9
  go_wp2
  go_ret
  exact ⟨rfl, rfl⟩

/-- 'string(b)' of a slice of bytes, whatever its address. -/
theorem conv_some (x : Addr) (len cap : Nat) (zs : List Int) (w : World) (hz : zs.length = len) (hc : ∀ i, i < len → w.cell? (x.add i) = some (.int .u8 (zs.getD i 0))) :
    (convert 22 9 (.slice (some x) len cap)).run Yba.prog w = .ok (.string (strOfNums zs)) w := by
  have hl : (loadCells x len).run Yba.prog w = .ok (zs.map (Value.int .u8)).toArray w := by
    have := run_loadCells_list (P := Yba.prog) w x (zs.map (Value.int .u8)) (fun j v hj => by
      have hjl : j < zs.length := by
        have := (List.getElem?_eq_some_iff.1 hj).1
        simpa using this
      have e : v = .int .u8 (zs.getD j 0) := by simpa [hjl, List.getD] using hj.symm
      rw [e]
      exact hc j (by omega))
    simpa [hz] using this
  rw [run_convert_bytes_string w 22 9 5 _ len cap Yba.underlying22 Yba.underlying5 Yba.underlying9, run_bytesToString w _ len cap zs hl, foldl_push_bytes]
  simp [strOfNums, ByteArray.empty, ByteArray.emptyWithCapacity]
  rfl

/-- Which answers are tried again. -/
def retB (st : Int) (k : ByteArray) (ip : Bool) : Bool :=
  st == 408 || st == 429 || st == 500 || st == 502 || st == 503 || st == 504 || (ip && (k.toList == [105, 100, 101, 109, 112, 111, 116, 101, 110, 99, 121, 95, 105, 110, 95, 112, 114, 111, 103, 114, 101, 115, 115]))

set_option maxHeartbeats 800000 in
theorem retried_any (pb : Nat) (st : Int) (k : ByteArray) (ip : Bool) (w : World) (h0 : w.cell? ⟨pb, 0, none⟩ = some (.int .i64 st)) (h1 : w.cell? ⟨pb, 3, none⟩ = some (.string k)) :
    Calls Yba.prog 7 #[.pointer (some ⟨pb, 0, none⟩), .bool ip] w fun e w' => e = .returned (.bool (retB st k ip)) ∧ w' = w := by
  go_enter Yba.func7, Yba.ntmps7
  go_wp2
  all_goals (go_ret; go_light; refine ⟨?_, rfl⟩; simp [retB, *])

/-- The table of the model. -/
def tab (j : Nat) : Int := [408, 429, 500, 502, 503, 504].getD j 0

theorem ret_of_tab {st : Int} {k : ByteArray} {ip : Bool} {j : Nat} (hj : j < 6) (h : tab j = st) : retB st k ip = true := by
  subst h
  match j, hj with
  | 0, _ => rfl
  | 1, _ => rfl
  | 2, _ => rfl
  | 3, _ => rfl
  | 4, _ => rfl
  | 5, _ => rfl

theorem ret_no_tab {st : Int} {k : ByteArray} {ip : Bool} (h : ∀ j, j < 6 → ¬ tab j = st) : retB st k ip = (ip && (k.toList == [105, 100, 101, 109, 112, 111, 116, 101, 110, 99, 121, 95, 105, 110, 95, 112, 114, 111, 103, 114, 101, 115, 115])) := by
  have h0 : ¬ (408 : Int) = st := h 0 (by decide)
  have h1 : ¬ (429 : Int) = st := h 1 (by decide)
  have h2 : ¬ (500 : Int) = st := h 2 (by decide)
  have h3 : ¬ (502 : Int) = st := h 3 (by decide)
  have h4 : ¬ (503 : Int) = st := h 4 (by decide)
  have h5 : ¬ (504 : Int) = st := h 5 (by decide)
  unfold retB
  rw [beq_eq_false_iff_ne.2 (fun e => h0 e.symm), beq_eq_false_iff_ne.2 (fun e => h1 e.symm), beq_eq_false_iff_ne.2 (fun e => h2 e.symm), beq_eq_false_iff_ne.2 (fun e => h3 e.symm), beq_eq_false_iff_ne.2 (fun e => h4 e.symm), beq_eq_false_iff_ne.2 (fun e => h5 e.symm)]
  rfl

set_option maxHeartbeats 800000 in
theorem model_any (st : Int) (k : ByteArray) (ip : Bool) (w : World) :
    Calls Yba.prog 8 #[.int .i64 st, .string k, .bool ip] w fun e w' => e = .returned (.bool (retB st k ip)) ∧ Below w.heap.size w w' := by
  go_enter Yba.func8, Yba.ntmps8
  go_wp2_with fail
  obtain ⟨W, hW⟩ : ∃ W, W = w.alloc (.cells #[.int .i64 408, .int .i64 429, .int .i64 500, .int .i64 502, .int .i64 503, .int .i64 504] 38) := ⟨_, rfl⟩
  have hcell : ∀ j, j < 6 → W.cell? ⟨w.heap.size, j, none⟩ = some (.int .i64 (tab j)) := fun j hj => by
    rw [hW]
    match j, hj with
    | 0, _ => simp [tab]
    | 1, _ => simp [tab]
    | 2, _ => simp [tab]
    | 3, _ => simp [tab]
    | 4, _ => simp [tab]
    | 5, _ => simp [tab]
  have hB : Below w.heap.size w W := by rw [hW]; exact (Below.refl _ _).alloc (Nat.le_refl _) _
  rw [← hW]
  clear hW
  go_loopg [8] 6 (fun g s8 wx => ∃ (i : Nat), i ≤ 6 ∧ g = 6 - i ∧ s8 = .int .i64 i ∧ W = wx ∧ Hid (∀ j, j < i → ¬ tab j = st))
  case atStart => exact ⟨0, Nat.zero_le _, rfl, rfl, rfl, fun j hj => absurd hj (Nat.not_lt_zero _)⟩
  case round =>
    obtain ⟨i, hi, rfl, rfl, rfl, HT⟩ := hrel
    by_cases hi6 : i < 6
    · have hiz : (i : Int) < 6 := by omega
      have t1 := hcell i hi6
      by_cases hs : tab i = st
      · have hsz : (tab i == st) = true := by simp [hs]
        have HS : Hid (tab i = st) := hs
        clear hs
        go_wp2
        go_ret
        exact ⟨by rw [ret_of_tab hi6 HS.out]; rfl, hB⟩
      · have hsz : (tab i == st) = false := by simp [hs]
        go_wp2
        go_roundg (6 - (i + 1))
        case measure => go_light; omega
        case rel => go_light; exact ⟨i + 1, by omega, rfl, by go_num, rfl, fun j hj => by
          by_cases e : j = i
          · rw [e]; exact hs
          · exact HT.out j (by omega)⟩
    · have hiz : ¬ ((i : Int) < 6) := by omega
      have hret := ret_no_tab (k := k) (ip := ip) (fun j hj => HT.out j (by omega))
      have HR : Hid (retB st k ip = (ip && (k.toList == [105, 100, 101, 109, 112, 111, 116, 101, 110, 99, 121, 95, 105, 110, 95, 112, 114, 111, 103, 114, 101, 115, 115]))) := hret
      clear hret
      cases ip
      · go_wp2
        go_ret
        exact ⟨by rw [HR.out]; rfl, hB⟩
      · go_wp2
        go_ret
        exact ⟨by rw [HR.out]; rfl, hB⟩

end Go.Proofs.Ybulkdloa.S
