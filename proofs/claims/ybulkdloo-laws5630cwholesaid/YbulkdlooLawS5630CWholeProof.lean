/-
  'Rows.LawS5630CWholeSaid' proved: the guide's own frame.
-/
import Derived.Test.YbulkdlooWWalk
import Derived.WalkKit
import Derived.ProofKit
import Derived.OpenShut
import Derived.ShutString
import Derived.ChangeOld
import Derived.Below
import Derived.SizedLaws
import Derived.Deep.Strs
namespace Go.Proofs.Ybulkdloo.lawS5630CWhole
open Go.ChangeShapes Go.WideShapes Go.ChangeAt Go.RowKit Go.Deep
open Go.ChangeMaps (open_string shut_string)
set_option linter.unusedVariables false

theorem own : ownKnob Yba.prog.godebug = none := by kernel_rfl
theorem laidOut : laidOutB Yba.prog = true := by kernel_rfl

theorem weightsAll_mem {H : Type} {P : Program} {e : TypeId} {n : Nat} : ∀ {ds : List (DataW H)} {d : DataW H}, d ∈ ds → n ∈ d.weights P e → n ∈ DataW.weightsAll P e ds
  | d0 :: ds, d, hd, hn => by
    simp only [DataW.weightsAll, List.mem_append]
    rcases List.mem_cons.1 hd with rfl | h
    · exact .inl hn
    · exact .inr (weightsAll_mem h hn)
  | [], _, hd, _ => by simp at hd

/-- A string that is an element of a slice among the arguments. -/
theorem sized_elem {H : Type} {P : Program} {ts : List TypeId} {ds : List (DataW H)} (h : (DataW.weightsEach P ts ds).all (· ≤ reachBytes) = true) {j : Nat} {t e : TypeId} {elems spare : List (DataW H)} (ht : ts[j]? = some t) (hd : ds[j]? = some (.slice elems spare))
    (hu : P.underlying t = some (.slice e)) {bs : List UInt8} (hm : DataW.lit (.string bs) ∈ elems) : bs.length ≤ reachBytes := by
  have := List.all_eq_true.1 h _ (DataW.weights_mem_each ht hd bs.length (by
    simp only [DataW.weights, hu, List.mem_cons, List.mem_append]
    exact .inr (.inl (weightsAll_mem hm (by simp [DataW.weights])))))
  simpa using this

theorem strs_of {H : Type} {enc : TypeId × Value → H} {W : World} {a : Option Addr} {len cap n base : Nat} {d : DataW H} {ps : List MemPlace}
    (hf : DataW.trod enc Yba.prog W base (fun _ => true) true n 42 [.slice a len cap] = some (d, ps)) (hsz : ∀ el sp, d = .slice el sp → ∀ bs, DataW.lit (.string bs) ∈ el → bs.length ≤ reachBytes) :
    ∃ (S : Nat → ByteArray) (db dof : Nat), (a = none → cap = 0) ∧ len ≤ 9223372036854775807 ∧ (∀ i, i < len → a = some ⟨db, dof, none⟩ ∧ W.cell? ⟨db, dof + i, none⟩ = some (.string (S i))) ∧ ∀ i, i < len → (S i).size ≤ 140737488355328 := by
  rcases open_strs Yba.underlying42 Yba.underlying9 (by kernel_rfl) hf with ⟨hcs, _⟩ | ⟨x, l, c, m, S, hcs, _, hl, hm, hmm, hx, hcell⟩
  · simp at hcs
    obtain ⟨rfl, rfl, rfl⟩ := hcs
    exact ⟨fun _ => ByteArray.empty, 0, 0, fun _ => rfl, by omega, fun i hi => absurd hi (Nat.not_lt_zero _), fun i hi => absurd hi (Nat.not_lt_zero _)⟩
  · simp at hcs
    obtain ⟨rfl, rfl, rfl⟩ := hcs
    have hml : len ≤ 9223372036854775807 := by unfold maxLen at hm; omega
    have hlm : len ≤ m := by rw [hmm]; split <;> omega
    have hd := hsz _ _ (congrArg Prod.fst hx)
    have hs : ∀ i, i < len → (S i).size ≤ 140737488355328 := fun i hi => by
      have := hd (S i).data.toList (List.mem_map.2 ⟨i, List.mem_range.2 hi, rfl⟩)
      simp only [reachBytes, Array.length_toList] at this
      have e : (S i).size = (S i).data.size := rfl
      omega
    by_cases h0 : 0 < len
    · obtain ⟨b, off, spot⟩ := x
      have hspot : spot = none := by simpa [Addr.add] using World.cell?_spot (hcell 0 (by omega)).1
      subst hspot
      exact ⟨S, b, off, fun h => (by cases h), hml, fun i hi => ⟨rfl, by rw [← Go.WideShapes.add_plain]; exact (hcell i (by omega)).1⟩, hs⟩
    · exact ⟨S, 0, 0, fun h => (by cases h), hml, fun i hi => absurd hi (by omega), hs⟩

theorem ints_of {H : Type} {enc : TypeId × Value → H} {W : World} {a : Option Addr} {len cap n base : Nat} {d : DataW H} {ps : List MemPlace}
    (hf : DataW.trod enc Yba.prog W base (fun _ => true) true n 41 [.slice a len cap] = some (d, ps)) :
    ∃ (Z : Nat → Int) (db dof : Nat), (a = none → cap = 0) ∧ len ≤ 9223372036854775807 ∧ (∀ i, i < len → a = some ⟨db, dof, none⟩ ∧ W.cell? ⟨db, dof + i, none⟩ = some (.int .i64 (Z i))) := by
  rcases open_ints Yba.underlying41 Yba.underlying2 (by kernel_rfl) hf with ⟨hcs, _⟩ | ⟨x, l, c, zs, hcs, _, hl, hm, hz, hx, hcell, hwz⟩
  · simp at hcs
    obtain ⟨rfl, rfl, rfl⟩ := hcs
    exact ⟨fun _ => 0, 0, 0, fun _ => rfl, by omega, fun i hi => absurd hi (Nat.not_lt_zero _)⟩
  · simp at hcs
    obtain ⟨rfl, rfl, rfl⟩ := hcs
    have hml : len ≤ 9223372036854775807 := by unfold maxLen at hm; omega
    have hlz : len ≤ zs.length := by rw [hz]; split <;> omega
    by_cases h0 : 0 < len
    · obtain ⟨b, off, rfl, hc⟩ := ints_at hcell (by omega)
      exact ⟨fun i => zs.getD i 0, b, off, fun h => (by cases h), hml, fun i hi => ⟨rfl, hc i (by omega)⟩⟩
    · exact ⟨fun _ => 0, 0, 0, fun h => (by cases h), hml, fun i hi => absurd hi (by omega)⟩

set_option maxRecDepth 100000 in
theorem lifted (os : Os) (started : os.Started) (H : Type) (enc : TypeId × Value → H) :
    ReturnsInHanded {} Yba.checked os 5 .any (Rows.lawS5630CWholeSpec.pre6 enc Yba.prog Yba.f5 Rows.lawS5630CWholeRow.domain false) (Rows.lawS5630CWholeSpec.post enc Yba.prog Yba.f5 false true false false) := by
  refine returnsInHanded_of_change_sized (C := Yba.checked) own started (by kernel_rfl) Yba.func5
    (ChangeSpec.witness6 (enc := enc) (C := Yba.checked) false ⟨#[], #[.slice none 0 0, .slice none 0 0], []⟩ 8 (by kernel_rfl) (by kernel_rfl) (by kernel_rfl) (by kernel_rfl)) ?_
  intro W base args ds gs before hval0 hW hcnd hsz0 _
  have hsz : (DataW.weightsEach Yba.prog (Yba.f5.params.toList ++ Rows.lawS5630CWholeSpec.plain.varTypes Yba.prog) (ds ++ gs)).all (· ≤ reachBytes) = true := hsz0
  clear hsz0
  have hval : ∀ (j : Nat) t v, Yba.f5.params[j]? = some t → args[j]? = some v → Value.okWide Yba.prog W .any base t v := hval0
  have hW' := hW
  obtain ⟨p, q, hA0, hV, rfl, hfz, hnd⟩ := hW
  have hA : DataW.TrodAll enc Yba.prog W 0 (fun _ => true) true Yba.f5.params.toList args.toList ds p := hA0
  rw [Yba.params5] at hA hval hsz
  obtain ⟨v0, vs0, d0, ds0, p0, q0, hargs, rfl, rfl, h0, r0⟩ := trodAll_cons hA
  obtain ⟨v1, vs1, d1, ds1, p1, q1, rfl, rfl, rfl, h1, r1⟩ := trodAll_cons r0
  obtain ⟨rfl, rfl, rfl⟩ := trodAll_nil r1
  obtain rfl : args = #[v0, v1] := by cases args; simp_all
  obtain ⟨rfl, rfl⟩ := trodVars_none hV
  obtain ⟨a0, len0, cap0, rfl⟩ := okWide_slice Yba.underlying41 (hval 0 41 v0 rfl rfl)
  obtain ⟨a1, len1, cap1, rfl⟩ := okWide_slice Yba.underlying42 (hval 1 42 v1 rfl rfl)
  have k0 := h0
  have k1 := h1
  have lt0 : ∀ x ∈ p0, x.block < W.heap.size := by obtain ⟨m, hm⟩ := k0; exact DataW.trod_lt m _ _ _ hm
  have lt1 : ∀ x ∈ p1, x.block < W.heap.size := by obtain ⟨m, hm⟩ := k1; exact DataW.trod_lt m _ _ _ hm
  obtain ⟨Z, db1, do1, n1, l1, c1⟩ := (by obtain ⟨fuel, hf⟩ := h0; exact ints_of hf : ∃ (Z : Nat → Int) (db dof : Nat), (a0 = none → cap0 = 0) ∧ len0 ≤ 9223372036854775807 ∧ (∀ i, i < len0 → a0 = some ⟨db, dof, none⟩ ∧ W.cell? ⟨db, dof + i, none⟩ = some (.int .i64 (Z i))))
  obtain ⟨S, db2, do2, n2, l2, c2, s2⟩ := (by
    obtain ⟨fuel, hf⟩ := h1
    exact strs_of hf (fun el sp h bs hm => sized_elem hsz (j := 1) (t := 42) rfl (by rw [h]; rfl) Yba.underlying42 hm) : ∃ (S : Nat → ByteArray) (db dof : Nat), (a1 = none → cap1 = 0) ∧ len1 ≤ 9223372036854775807 ∧ (∀ i, i < len1 → a1 = some ⟨db, dof, none⟩ ∧ W.cell? ⟨db, dof + i, none⟩ = some (.string (S i))) ∧ ∀ i, i < len1 → (S i).size ≤ 140737488355328)
  clear hA0 hval0
  refine (Go.Proofs.Ybulkdloo.W.law a0 a1 len0 cap0 db1 do1 len1 cap1 db2 do2 Z S W n1 n2 l1 l2 c1 c2 s2).mono fun e W' ⟨he, bel⟩ => ?_
  subst he
  exact ⟨_, rfl, _, _, _, [], _, [], hW', trodAll_mk1 (shut_bool Yba.underlying4 _), (trodAll_cons_mk (Below.trod laidOut (by kernel_rfl) (of_decide_eq_true (by kernel_rfl)) k0 bel lt0) (trodAll_cons_mk (Below.trod laidOut (by kernel_rfl) (of_decide_eq_true (by kernel_rfl)) k1 bel lt1) trodAll_mk0)), rfl, bel.frame _, fun h => by cases h⟩

theorem over : Rows.lawS5630CWholeRow.holds Yba.pinned (OpenSpec.ofChange Rows.lawS5630CWholeSpec) :=
  OpenClaim.holds_of_wide 5 Yba.f5 rfl rfl rfl rfl rfl rfl rfl ⟨rfl, rfl, rfl, rfl, rfl⟩ rfl rfl rfl rfl rfl (by kernel_rfl) Yba.func5 (by kernel_rfl)
    (of_decide_eq_true (by kernel_rfl)) (by unfold Func.isWrapper; first | (rw [if_pos (by decide +kernel)]; kernel_rfl) | (rw [if_neg (by decide +kernel)]; exact ⟨rfl, rfl⟩))
    (fun os started H enc _ => lifted os started H enc)

theorem proved : Rows.LawS5630CWholeSaid := over
#print axioms proved
end Go.Proofs.Ybulkdloo.lawS5630CWhole
