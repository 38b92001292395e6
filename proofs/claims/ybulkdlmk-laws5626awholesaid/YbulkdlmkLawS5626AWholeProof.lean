/-
  'Rows.LawS5626AWholeSaid' proved: the frame as the guide's shell has it, the slice of pairs opened by 'open_slice_pairs'.
-/
import Derived.Test.YbulkdlmkAWalk
import Derived.WalkKit
import Derived.ProofKit
import Derived.OpenShut
import Derived.ShutString
import Derived.ChangeOld
import Derived.Below
import Derived.Deep.SlicePairs
namespace Go.Proofs.Ybulkdlmk.lawS5626AWhole
open Go.ChangeShapes Go.WideShapes Go.ChangeAt Go.RowKit
open Go.ChangeMaps (open_string shut_string)
set_option linter.unusedVariables false

theorem own : ownKnob Yba.prog.godebug = none := by kernel_rfl
theorem laidOut : laidOutB Yba.prog = true := by kernel_rfl

theorem trod_float {H : Type} {enc : TypeId × Value → H} {P : Program} {w : World} {base : Nat} {spare : Nat → Bool} {held : Bool} {t : TypeId} {k : FloatKind} {v : Value} {n : Nat} {x : DataW H × List MemPlace}
    (ht : P.underlying t = some (.float k)) (hf : DataW.trod enc P w base spare held n t [v] = some x) : ∃ b, v = .float k b := by
  cases n with
  | zero => simp [DataW.trod] at hf
  | succ n =>
    unfold DataW.trod at hf
    rw [ht] at hf
    split at hf <;> simp_all

/-- What the walk is told of the slice of entries. -/
theorem entries_of {H : Type} {enc : TypeId × Value → H} {W : World} {a : Option Addr} {len cap n base : Nat} {spare : Nat → Bool} {held : Bool} {x : DataW H × List MemPlace}
    (hf : DataW.trod enc Yba.prog W base spare held n 22 [.slice a len cap] = some x) :
    ∃ (eb eo : Nat) (C : Nat → ByteArray) (U : Nat → Nat), len ≤ 9223372036854775807 ∧ ∀ i, i < len → a = some ⟨eb, eo, none⟩ ∧ W.cell? ⟨eb, eo + i * 2, none⟩ = some (.string (C i)) ∧ W.cell? ⟨eb, eo + i * 2 + 1, none⟩ = some (.float .f64 (U i)) := by
  rcases Deep.open_slice_pairs Yba.underlying22 Yba.underlying26 (by kernel_rfl) rfl rfl (by kernel_rfl) (by kernel_rfl) hf with ⟨hcs, _⟩ | ⟨ad, l, c, m, n', V0, V1, D0, D1, P0, P1, hcs, _, hl, hm, hmm, _, hV⟩
  · simp at hcs
    obtain ⟨rfl, rfl, rfl⟩ := hcs
    exact ⟨0, 0, fun _ => ByteArray.empty, fun _ => 0, by decide, fun i hi => absurd hi (Nat.not_lt_zero _)⟩
  · simp at hcs
    obtain ⟨rfl, rfl, rfl⟩ := hcs
    have hlm : len ≤ m := by rw [hmm]; split <;> omega
    obtain ⟨U, hU⟩ := Deep.choose_lt (α := Nat) (n := len) (p := fun i b => V1 i = .float .f64 b) (fun i hi => trod_float Yba.underlying23 (hV i (by omega)).2.2.2)
    obtain ⟨C, hC⟩ := Deep.choose_lt (α := ByteArray) (n := len) (p := fun i b => V0 i = .string b) (fun i hi => by
      obtain ⟨s, hs, _⟩ := DataW.trod_string Yba.underlying9 (hV i (by omega)).2.2.1
      exact ⟨s, by simpa using hs⟩)
    have hml : len ≤ 9223372036854775807 := by unfold maxLen at hm; omega
    by_cases h0 : 0 < len
    · obtain ⟨b, o, spot⟩ := ad
      have hspot : spot = none := by simpa [Addr.add] using World.cell?_spot (hV 0 (by omega)).1
      subst hspot
      refine ⟨b, o, C, U, hml, fun i hi => ⟨rfl, ?_, ?_⟩⟩
      · rw [← Go.WideShapes.add_plain, (hV i (by omega)).1, hC i hi]
      · rw [Nat.add_assoc, ← Go.WideShapes.add_plain, (hV i (by omega)).2.1, hU i hi]
    · exact ⟨0, 0, fun _ => ByteArray.empty, fun _ => 0, hml, fun i hi => by omega⟩

set_option maxRecDepth 100000 in
theorem lifted (os : Os) (started : os.Started) (H : Type) (enc : TypeId × Value → H) :
    ReturnsInHanded {} Yba.checked os 3 .any (Rows.lawS5626AWholeSpec.pre6 enc Yba.prog Yba.f3 Rows.lawS5626AWholeRow.domain false) (Rows.lawS5626AWholeSpec.post enc Yba.prog Yba.f3 false true false false) := by
  refine returnsInHanded_of_change (C := Yba.checked) own started (by kernel_rfl) Yba.func3
    (ChangeSpec.witness6 (enc := enc) (C := Yba.checked) false ⟨#[], #[.slice none 0 0, .string ByteArray.empty, .float .f64 0, .int .u8 0], []⟩ 8 (by kernel_rfl) (by kernel_rfl) (by kernel_rfl) (by kernel_rfl)) ?_
  intro W base args ds gs before hval0 hW hcnd _
  have hval : ∀ (j : Nat) t v, Yba.f3.params[j]? = some t → args[j]? = some v → Value.okWide Yba.prog W .any base t v := hval0
  have hW' := hW
  obtain ⟨p, q, hA0, hV, rfl, hfz, hnd⟩ := hW
  have hA : DataW.TrodAll enc Yba.prog W 0 (fun _ => true) true Yba.f3.params.toList args.toList ds p := hA0
  rw [Yba.params3] at hA hval
  obtain ⟨v0, vs0, d0, ds0, p0, q0, hargs, rfl, rfl, h0, r0⟩ := trodAll_cons hA
  obtain ⟨v1, vs1, d1, ds1, p1, q1, rfl, rfl, rfl, h1, r1⟩ := trodAll_cons r0
  obtain ⟨v2, vs2, d2, ds2, p2, q2, rfl, rfl, rfl, h2, r2⟩ := trodAll_cons r1
  obtain ⟨v3, vs3, d3, ds3, p3, q3, rfl, rfl, rfl, h3, r3⟩ := trodAll_cons r2
  obtain ⟨rfl, rfl, rfl⟩ := trodAll_nil r3
  obtain rfl : args = #[v0, v1, v2, v3] := by cases args; simp_all
  obtain ⟨rfl, rfl⟩ := trodVars_none hV
  obtain ⟨a0, len0, cap0, rfl⟩ := okWide_slice Yba.underlying22 (hval 0 22 v0 rfl rfl)
  have k0 := h0
  have lt0 : ∀ x ∈ p0, x.block < W.heap.size := by obtain ⟨m, hm⟩ := k0; exact DataW.trod_lt m _ _ _ hm
  obtain ⟨eb, eo, C, U, hlen, hE⟩ : ∃ (eb eo : Nat) (C : Nat → ByteArray) (U : Nat → Nat), len0 ≤ 9223372036854775807 ∧ ∀ i, i < len0 → a0 = some ⟨eb, eo, none⟩ ∧ W.cell? ⟨eb, eo + i * 2, none⟩ = some (.string (C i)) ∧ W.cell? ⟨eb, eo + i * 2 + 1, none⟩ = some (.float .f64 (U i)) := by
    obtain ⟨fuel, hf⟩ := h0
    exact entries_of hf
  obtain ⟨a1, rfl, rfl, rfl, w1⟩ := open_string Yba.underlying9 (hval 1 9 v1 rfl rfl) h1
  obtain ⟨a2, rfl, rfl, rfl, w2⟩ := open_float Yba.underlying23 (hval 2 23 v2 rfl rfl) h2
  obtain ⟨a3, rfl, rfl, rfl, w3⟩ := open_int Yba.underlying5 (hval 3 5 v3 rfl rfl) h3
  clear hA0 hval0
  refine (A.law_a a0 len0 cap0 eb eo C U a1 a2 a3 W hlen (bounds_u8 w3) hE).mono fun e W' ⟨he, bel⟩ => ?_
  subst he
  exact ⟨_, rfl, _, _, _, [], _, [], hW', trodAll_mk1 (shut_bool Yba.underlying4 _), (trodAll_cons_mk (Below.trod laidOut (by kernel_rfl) (of_decide_eq_true (by kernel_rfl)) k0 bel lt0) (trodAll_cons_mk (shut_string Yba.underlying9 w1) (trodAll_cons_mk (shut_float Yba.underlying23 w2) (trodAll_cons_mk (shut_int Yba.underlying5 w3) trodAll_mk0)))), rfl, bel.frame _, fun h => by cases h⟩

theorem over : Rows.lawS5626AWholeRow.holds Yba.pinned (OpenSpec.ofChange Rows.lawS5626AWholeSpec) :=
  OpenClaim.holds_of_wide 3 Yba.f3 rfl rfl rfl rfl rfl rfl rfl ⟨rfl, rfl, rfl, rfl, rfl⟩ rfl rfl rfl rfl rfl (by kernel_rfl) Yba.func3 (by kernel_rfl)
    (of_decide_eq_true (by kernel_rfl)) (by unfold Func.isWrapper; first | (rw [if_pos (by decide +kernel)]; kernel_rfl) | (rw [if_neg (by decide +kernel)]; exact ⟨rfl, rfl⟩))
    (fun os started H enc _ => lifted os started H enc)

theorem proved : Rows.LawS5626AWholeSaid := over
#print axioms proved
end Go.Proofs.Ybulkdlmk.lawS5626AWhole
