/-
  Plain laws on worlds: copy and append into a row of the call's own, told by 'rowIs', in whatever world of draws. No program in sight.
-/
import Derived.WalkKit
import Derived.Deep.OwnRows
import Derived.Deep.Draws
import Derived.Laws.CopyOwn
namespace Go.Proofs.YbulkdlooDoor.Lib
open Go Go.RowKit Go.Deep

theorem since_mono {B B' : Nat} {w w' : World} (h : w.Since B w') (hB : B' ≤ B) : w.Since B' w' := ⟨h.os, h.tape, h.output, h.size, fun k hk => h.block k (by omega)⟩

/-- 'copy(dst, src)', dst within a row, src any cells. -/
theorem run_copy_rows {P : Program} (w : World) (dT sT ty e : TypeId) (hu : P.underlying dT = some (.slice e)) (hs : (P.info? e).map (·.size) = some 1)
    (g o cap dLen dCap : Nat) (f : Nat → Value) (hrow : w.rowIs g e cap f) (a : Addr) (sLen sCap k : Nat) (s : Nat → Value) (hk : k = Nat.min sLen dLen)
    (hsrc : ∀ j, j < k → w.cell? (a.add j) = some (s j)) (h1 : ∀ j, j < k → (s j).oneCell' = true) (hfit : o + k ≤ cap) :
    ∃ w', (∀ q, (Builtin.copy_ #[dT, sT] ty #[.slice (some ⟨g, o, none⟩) dLen dCap, .slice (some a) sLen sCap]).run P (w.drewN q) = .ok (.int .i64 (k : Int)) (w'.drewN q)) ∧
      w'.rowIs g e cap (fun j => if o ≤ j ∧ j < o + k then s (j - o) else f j) ∧ w.grownBy w' (some g) ∧ w'.heap.size = w.heap.size := by
  obtain ⟨cur, hb, hsz, hc⟩ := hrow
  have hcl : cur.toList.length = cap := by simp [hsz]
  refine ⟨w.setRow g (cur.toList.take o ++ (List.range k).map s ++ cur.toList.drop (o + ((List.range k).map s).length)).toArray, fun q => ?_, ?_, ⟨rfl, rfl, rfl, by simp, fun j _ hj => setRow_other w g j _ (fun e => hj (by simp [e]))⟩, by simp⟩
  · have hr := run_copy_row (P := P) (w.drewN q) dT sT ty e g o dLen dCap a sLen sCap cur e ((List.range k).map s) hu hs hb (by simp [hk])
      (by
        intro j u hu'
        have hj : j < k := by
          have := (List.getElem?_eq_some_iff.1 hu').1
          simpa using this
        have e' : u = s j := by simpa [hj] using hu'.symm
        rw [e']
        exact hsrc j hj)
      (by simp [hsz]; exact hfit)
      (by
        intro u hu'
        obtain ⟨j, hj, rfl⟩ := List.mem_map.1 hu'
        exact h1 j (by simpa using hj))
    rw [hr]
    simp only [goInt, List.length_map, List.length_range]
    rfl
  · refine ⟨_, setRow_heap w g cur _ e _ hb, ?_, ?_⟩
    · simp only [List.size_toArray, List.length_append, List.length_take, List.length_drop, Array.length_toList, List.length_map, List.length_range]
      omega
    · intro j hj
      simp only [List.getElem?_toArray, List.length_map, List.length_range]
      by_cases h0 : j < o
      · rw [List.getElem?_append_left (by simp; omega), List.getElem?_append_left (by simp; omega), List.getElem?_take, if_pos h0]
        simp only [Array.getElem?_toList]
        rw [hc j hj]
        simp [show ¬ o ≤ j by omega]
      · by_cases h2 : j < o + k
        · rw [List.getElem?_append_left (by simp; omega), List.getElem?_append_right (by simp; omega)]
          simp only [List.length_take, hcl, Nat.min_eq_left (show o ≤ cap by omega)]
          rw [List.getElem?_map, List.getElem?_range (by omega)]
          simp [show o ≤ j by omega, h2]
        · rw [List.getElem?_append_right (by simp; omega)]
          simp only [List.length_append, List.length_take, hcl, Nat.min_eq_left (show o ≤ cap by omega), List.length_map, List.length_range]
          rw [List.getElem?_drop, show o + k + (j - (o + k)) = j by omega, Array.getElem?_toList, hc j hj]
          simp [h2]

/-- 'make([]T, 0, n)', n a variable, T of one cell. -/
theorem run_make0_row {P : Program} (t e : TypeId) (z : Value) (bytes : Nat) (ht : P.underlying t = some (.slice e)) (hinfo : (P.info? e).map (fun i => (i.zero, i.size, i.bytes)) = some (some z, 1, bytes)) (hz1 : z.cells = #[z])
    (kl kc : IntKind) (n : Nat) (hbytes : bytes * n ≤ 281474976710656) (h63 : n ≤ 9223372036854775807) (w : World) :
    (Instr.makeSlice t (.int kl 0) (.int kc (n : Int))).run P w = .ok (.slice (some ⟨w.heap.size, 0, none⟩) 0 n) (w.alloc (.cells (madeCells #[z] n) e)) := by
  obtain ⟨i, hi, hz, hs, hb⟩ := info_parts hinfo
  have hb' : (i.bytes : Int) * (n : Int) ≤ 281474976710656 := by
    have h : ((i.bytes * n : Nat) : Int) ≤ 281474976710656 := by rw [hb]; omega
    rwa [Int.natCast_mul] at h
  have hr := run_make (P := P) w t e i z ht hi hz kl kc 0 n (by omega) (by omega) hb' (by omega)
  simp only [Int.toNat_natCast, Int.toNat_zero, hs, Nat.mul_one, hz1] at hr
  exact hr

/-- 'append' within the capacity, elements of one cell. -/
theorem run_append_row {P : Program} (w : World) (t ty e : TypeId) (i : TypeInfo) (ht : P.underlying t = some (.slice e)) (hi : P.info? e = some i) (hsize : i.size = 1)
    (g n cap : Nat) (f : Nat → Value) (hrow : w.rowIs g e cap f)
    (a : Addr) (m c : Nat) (s : Nat → Value) (hs : ∀ j, j < m → w.cell? (a.add j) = some (s j)) (h1 : ∀ j, j < m → (s j).oneCell' = true) (hroom : n + m ≤ cap) :
    ∃ w', (Builtin.append_ #[t, t] ty #[.slice (some ⟨g, 0, none⟩) n cap, .slice (some a) m c]).run P w = .ok (.slice (some ⟨g, 0, none⟩) (n + m) cap) w' ∧
      w'.rowIs g e cap (fun j => if n ≤ j ∧ j < n + m then s (j - n) else f j) ∧ w.grownBy w' (some g) ∧ w'.heap.size = w.heap.size := by
  obtain ⟨cur, hb, hsz, hc⟩ := hrow
  have hr := run_append_room (P := P) w t ty e i ht hi g n cap cur hb a m c ((List.range m).map s) (by simp [hsize])
    (by
      intro j u hu
      have hj : j < m := by
        have := (List.getElem?_eq_some_iff.1 hu).1
        simpa using this
      have : u = s j := by simpa [hj] using hu.symm
      rw [this]
      exact hs j hj)
    (by
      intro u hu
      obtain ⟨j, hj, rfl⟩ := List.mem_map.1 hu
      exact h1 j (by simpa using hj))
    hroom (by rw [hsize, hsz]; simp; exact hroom)
  refine ⟨_, hr, ?_, ⟨rfl, rfl, rfl, by simp, fun k _ hk => setRow_other w g k _ (fun e => hk (by simp [e]))⟩, by simp⟩
  refine ⟨_, setRow_heap w g cur _ e _ hb, ?_, ?_⟩
  · simp only [List.size_toArray, List.length_append, List.length_take, List.length_drop, Array.length_toList, List.length_map, List.length_range, hsize]
    omega
  · intro j hj
    have hcl : cur.toList.length = cap := by simp [hsz]
    simp only [List.getElem?_toArray, hsize, Nat.mul_one, List.length_map, List.length_range]
    by_cases h0 : j < n
    · rw [List.getElem?_append_left (by simp; omega), List.getElem?_append_left (by simp; omega), List.getElem?_take, if_pos h0]
      simp only [Array.getElem?_toList]
      rw [hc j hj]
      simp [show ¬ n ≤ j by omega]
    · by_cases h2 : j < n + m
      · rw [List.getElem?_append_left (by simp; omega), List.getElem?_append_right (by simp; omega)]
        simp only [List.length_take, hcl, Nat.min_eq_left (show n ≤ cap by omega)]
        rw [List.getElem?_map, List.getElem?_range (by omega)]
        simp [show n ≤ j by omega, h2]
      · rw [List.getElem?_append_right (by simp; omega)]
        simp only [List.length_append, List.length_take, hcl, Nat.min_eq_left (show n ≤ cap by omega), List.length_map, List.length_range]
        rw [List.getElem?_drop, show n + m + (j - (n + m)) = j by omega, Array.getElem?_toList, hc j hj]
        simp [h2]

/-- .. as a law for the walk. -/
theorem wpList_append_row {P : Program} (w : World) {ops : Array Oper} {rest : List Oper} {o : Oper} {a : Act} {Q : Exit → Act → World → Prop}
    (hg : o.guard = none) (s x : Operand) (t : TypeId) (hop : o.op = Op.call { callee := Callee.builtin Builtin.append, args := #[s, x], argTypes := #[t, t] })
    (e : TypeId) (i : TypeInfo) (h1 : P.underlying t = some (.slice e)) (h2 : P.info? e = some i) (h4 : i.size = 1)
    (g n cap : Nat) (f : Nat → Value) (hs : a.eval s = .slice (some ⟨g, 0, none⟩) n cap) (hrow : w.rowIs g e cap f) (ad : Addr) (m c : Nat) (src : Nat → Value) (hx : a.eval x = .slice (some ad) m c)
    (hc : ∀ j, j < m → w.cell? (ad.add j) = some (src j)) (h1c : ∀ j, j < m → (src j).oneCell' = true) (b1 : n + m ≤ cap)
    (hK : ∀ w', w'.rowIs g e cap (fun j => if n ≤ j ∧ j < n + m then src (j - n) else f j) → w.grownBy w' (some g) → w'.heap.size = w.heap.size → wpList P ops Q rest (a.put o.dst (.slice (some ⟨g, 0, none⟩) (n + m) cap)) w') :
    wpList P ops Q (o :: rest) a w := by
  refine wpList_plain hg fun K hK' => ?_
  obtain ⟨w', hrun, r1, r2, r3⟩ := run_append_row (P := P) w t o.type e i h1 h2 h4 g n cap f hrow ad m c src hc h1c b1
  unfold Oper.wp
  simp [execOp, hop, resolve, invoke, builtin, hs, hx, hrun, Result.andThen]
  exact hK' _ _ (hK w' r1 r2 r3)


/-- 'copy(row, data)', both of n cells. -/
theorem run_copy_all {P : Program} (w : World) (dT sT ty e : TypeId) (hu : P.underlying dT = some (.slice e)) (hs : (P.info? e).map (·.size) = some 1)
    (g n dCap sCap db dof : Nat) (a : Option Addr) (f : Nat → Value) (hrow : w.rowIs g e n f) (s : Nat → Value) (hsrc : ∀ j, j < n → a = some ⟨db, dof, none⟩ ∧ w.cell? ⟨db, dof + j, none⟩ = some (s j)) (h1 : ∀ j, j < n → (s j).oneCell' = true) :
    ∃ w', (Builtin.copy_ #[dT, sT] ty #[.slice (some ⟨g, 0, none⟩) n dCap, .slice a n sCap]).run P w = .ok (.int .i64 (n : Int)) w' ∧ w'.rowIs g e n s ∧ w.grownBy w' (some g) ∧ w'.heap.size = w.heap.size := by
  by_cases h0 : 0 < n
  · obtain ⟨rfl, _⟩ := hsrc 0 h0
    obtain ⟨w', hr, hrow', hg, hsz⟩ := run_copy_rows (P := P) w dT sT ty e hu hs g 0 n n dCap f hrow ⟨db, dof, none⟩ n sCap n s (Nat.min_self n).symm (fun j hj => by rw [Addr.add_lit]; exact (hsrc j hj).2) h1 (by omega)
    exact ⟨w', hr 0, hrow'.congr (fun j hj => by simp [hj]), hg, hsz⟩
  · obtain rfl : n = 0 := by omega
    have hr := run_copy_none (P := P) w dT sT ty e (some ⟨g, 0, none⟩) a 0 dCap 0 sCap hu hs rfl
    exact ⟨w, hr, hrow.congr (fun j hj => absurd hj (Nat.not_lt_zero _)), ⟨rfl, rfl, rfl, Nat.le_refl _, fun _ _ _ => rfl⟩, rfl⟩

end Go.Proofs.YbulkdlooDoor.Lib
