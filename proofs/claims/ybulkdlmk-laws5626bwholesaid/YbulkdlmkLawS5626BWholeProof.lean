/-
  'Rows.LawS5626BWholeSaid' proved: the frame as the guide's shell has it, the slice of floats opened by 'open_slice1'.
-/
import Derived.Test.YbulkdlmkBWalk
import Derived.WalkKit
import Derived.ProofKit
import Derived.OpenShut
import Derived.ShutString
import Derived.ChangeOld
import Derived.Below
import Derived.Deep.Slices
namespace Go.Proofs.Ybulkdlmk.lawS5626BWhole
open Go.ChangeShapes Go.WideShapes Go.ChangeAt Go.RowKit
open Go.ChangeMaps (open_string shut_string)
set_option linter.unusedVariables false

theorem own : ownKnob Yba.prog.godebug = none := by kernel_rfl
theorem laidOut : laidOutB Yba.prog = true := by kernel_rfl

theorem trod_float {H : Type} {enc : TypeId × Value → H} {P : Program} {w : World} {base : Nat} {spare : Nat → Bool} {held : Bool} {t : TypeId} {k : FloatKind} {v : Value} {n : Nat} {x : DataW H × List MemPlace}
    (ht : P.underlying t = some (.float k)) (hf : DataW.trod enc P w base spare held n t [v] = some x) : ∃ b, v = .float k b := by
  cases n with
  | zero => simp [DataW.trod] at hf
  | succ n =>
    unfold DataW.trod at hf
    rw [ht] at hf
    split at hf <;> simp_all

/-- What the walk is told of the slice of floats. -/
theorem floats_of {H : Type} {enc : TypeId × Value → H} {W : World} {a : Option Addr} {len cap n base : Nat} {spare : Nat → Bool} {held : Bool} {x : DataW H × List MemPlace}
    (hf : DataW.trod enc Yba.prog W base spare held n 37 [.slice a len cap] = some x) :
    ∃ (db dof : Nat) (D : Nat → Nat), len ≤ 9223372036854775807 ∧ ∀ i, i < len → a = some ⟨db, dof, none⟩ ∧ W.cell? ⟨db, dof + i, none⟩ = some (.float .f64 (D i)) := by
  rcases Deep.open_slice1 Yba.underlying37 (by kernel_rfl) hf with ⟨hcs, _⟩ | ⟨ad, l, c, m, n', V, D, Pl, hcs, _, hl, hm, hmm, _, hV⟩
  · simp at hcs
    obtain ⟨rfl, rfl, rfl⟩ := hcs
    exact ⟨0, 0, fun _ => 0, by decide, fun i hi => absurd hi (Nat.not_lt_zero _)⟩
  · simp at hcs
    obtain ⟨rfl, rfl, rfl⟩ := hcs
    have hlm : len ≤ m := by rw [hmm]; split <;> omega
    obtain ⟨F, hF⟩ := Deep.choose_lt (α := Nat) (n := len) (p := fun i b => V i = .float .f64 b) (fun i hi => trod_float Yba.underlying23 (hV i (by omega)).2)
    have hml : len ≤ 9223372036854775807 := by unfold maxLen at hm; omega
    by_cases h0 : 0 < len
    · obtain ⟨b, o, spot⟩ := ad
      have hspot : spot = none := by simpa [Addr.add] using World.cell?_spot (hV 0 (by omega)).1
      subst hspot
      exact ⟨b, o, F, hml, fun i hi => ⟨rfl, by rw [← Go.WideShapes.add_plain, (hV i (by omega)).1, hF i hi]⟩⟩
    · exact ⟨0, 0, fun _ => 0, hml, fun i hi => by omega⟩

set_option maxRecDepth 100000 in
theorem lifted (os : Os) (started : os.Started) (H : Type) (enc : TypeId × Value → H) :
    ReturnsInHanded {} Yba.checked os 4 .any (Rows.lawS5626BWholeSpec.pre6 enc Yba.prog Yba.f4 Rows.lawS5626BWholeRow.domain false) (Rows.lawS5626BWholeSpec.post enc Yba.prog Yba.f4 false true false false) := by
  refine returnsInHanded_of_change (C := Yba.checked) own started (by kernel_rfl) Yba.func4
    (ChangeSpec.witness6 (enc := enc) (C := Yba.checked) false ⟨#[], #[.int .u8 0, .int .u8 0, .int .u8 0, .slice none 0 0], []⟩ 8 (by kernel_rfl) (by kernel_rfl) (by kernel_rfl) (by kernel_rfl)) ?_
  intro W base args ds gs before hval0 hW hcnd _
  have hval : ∀ (j : Nat) t v, Yba.f4.params[j]? = some t → args[j]? = some v → Value.okWide Yba.prog W .any base t v := hval0
  have hW' := hW
  obtain ⟨p, q, hA0, hV, rfl, hfz, hnd⟩ := hW
  have hA : DataW.TrodAll enc Yba.prog W 0 (fun _ => true) true Yba.f4.params.toList args.toList ds p := hA0
  rw [Yba.params4] at hA hval
  obtain ⟨v0, vs0, d0, ds0, p0, q0, hargs, rfl, rfl, h0, r0⟩ := trodAll_cons hA
  obtain ⟨v1, vs1, d1, ds1, p1, q1, rfl, rfl, rfl, h1, r1⟩ := trodAll_cons r0
  obtain ⟨v2, vs2, d2, ds2, p2, q2, rfl, rfl, rfl, h2, r2⟩ := trodAll_cons r1
  obtain ⟨v3, vs3, d3, ds3, p3, q3, rfl, rfl, rfl, h3, r3⟩ := trodAll_cons r2
  obtain ⟨rfl, rfl, rfl⟩ := trodAll_nil r3
  obtain rfl : args = #[v0, v1, v2, v3] := by cases args; simp_all
  obtain ⟨rfl, rfl⟩ := trodVars_none hV
  obtain ⟨a0, rfl, rfl, rfl, w0⟩ := open_int Yba.underlying5 (hval 0 5 v0 rfl rfl) h0
  obtain ⟨a1, rfl, rfl, rfl, w1⟩ := open_int Yba.underlying5 (hval 1 5 v1 rfl rfl) h1
  obtain ⟨a2, rfl, rfl, rfl, w2⟩ := open_int Yba.underlying5 (hval 2 5 v2 rfl rfl) h2
  obtain ⟨a3, len3, cap3, rfl⟩ := okWide_slice Yba.underlying37 (hval 3 37 v3 rfl rfl)
  have k3 := h3
  have lt3 : ∀ x ∈ p3, x.block < W.heap.size := by obtain ⟨m, hm⟩ := k3; exact DataW.trod_lt m _ _ _ hm
  obtain ⟨db, dof, D, hlen, hdata⟩ : ∃ (db dof : Nat) (D : Nat → Nat), len3 ≤ 9223372036854775807 ∧ ∀ i, i < len3 → a3 = some ⟨db, dof, none⟩ ∧ W.cell? ⟨db, dof + i, none⟩ = some (.float .f64 (D i)) := by
    obtain ⟨fuel, hf⟩ := h3
    exact floats_of hf
  clear hA0 hval0
  refine (B.law_b a0 a1 a2 a3 len3 cap3 db dof D W (bounds_u8 w0) (bounds_u8 w1) (bounds_u8 w2) hlen hdata).mono fun e W' ⟨he, bel⟩ => ?_
  subst he
  exact ⟨_, rfl, _, _, _, [], _, [], hW', trodAll_mk1 (shut_bool Yba.underlying4 _), (trodAll_cons_mk (shut_int Yba.underlying5 w0) (trodAll_cons_mk (shut_int Yba.underlying5 w1) (trodAll_cons_mk (shut_int Yba.underlying5 w2) (trodAll_cons_mk (Below.trod laidOut (by kernel_rfl) (of_decide_eq_true (by kernel_rfl)) k3 bel lt3) trodAll_mk0)))), rfl, bel.frame _, fun h => by cases h⟩

theorem over : Rows.lawS5626BWholeRow.holds Yba.pinned (OpenSpec.ofChange Rows.lawS5626BWholeSpec) :=
  OpenClaim.holds_of_wide 4 Yba.f4 rfl rfl rfl rfl rfl rfl rfl ⟨rfl, rfl, rfl, rfl, rfl⟩ rfl rfl rfl rfl rfl (by kernel_rfl) Yba.func4 (by kernel_rfl)
    (of_decide_eq_true (by kernel_rfl)) (by unfold Func.isWrapper; first | (rw [if_pos (by decide +kernel)]; kernel_rfl) | (rw [if_neg (by decide +kernel)]; exact ⟨rfl, rfl⟩))
    (fun os started H enc _ => lifted os started H enc)

theorem proved : Rows.LawS5626BWholeSaid := over
#print axioms proved
end Go.Proofs.Ybulkdlmk.lawS5626BWhole
