/-
  'Rows.LawS5630AWholeCardSaid' proved: the row out of the walk; the card by the builder's one call.
-/
import Derived.Test.YbulkdlooDoorWalk
import Derived.Test.YbulkdlooDoorTie
import Derived.Test.YbulkdlooDoorCards
import Derived.ProofKit
import Derived.OpenShut
import Derived.LaidMore
import Derived.Stop.LaidErr
import Derived.Stop.Joined
import Derived.SevenTiedAt
import Derived.Below
namespace Go.Proofs.YbulkdlooDoor.lawS5630AWhole
open Go Go.ChangeShapes Go.WideShapes Go.ChangeAt Go.RowKit
set_option linter.unusedVariables false

theorem own : ownKnob Ybad.prog.godebug = none := by kernel_rfl
theorem laidOut : laidOutB Ybad.prog = true := by kernel_rfl
theorem eof : Ybad.prog.globalNamed "io.EOF" = some 0 := by kernel_rfl
theorem eofType : (Ybad.prog.globals[0]?).map (·.type) = some 30 := by kernel_rfl
theorem cells69 : Ybad.prog.cellsOf 69 = 1 := by kernel_rfl
theorem cells9 : Ybad.prog.cellsOf 9 = 1 := by kernel_rfl
/-- The dynamic type's name, as the given row has it. -/
def errName : String := match Rows.laid_io_EOF (H := Unit) with
  | .iface nm _ => nm
  | _ => "none"
theorem row50 (u : TypeId) (h : Ybad.prog.typeName? 3 u = some errName) : u = 50 :=
  typeName_ptr_named (nm := "errors.errorString") (by kernel_rfl) (by kernel_rfl) (by decide) u (h.trans (by kernel_rfl))

theorem door_met (os : Os) (args : Array Value) : laidMetH Ybad.prog [("io.EOF", Rows.laid_io_EOF), ("bufio.errNegativeRead", Rows.laid_bufio_errNegativeRead)] ((World.doorLaid Ybad.prog 47 os).forCall (fun _ _ => 0) ⟨#[], args, []⟩).memory :=
  laidMetH_of_parts3 (fuel := 8) (laidMet_of_run' 8 (by kernel_rfl) (by kernel_rfl)) (by kernel_rfl) (by kernel_rfl)

/-- What the condition gives the walk: io.EOF's cell. -/
theorem eof_of_laid {W : World} (hL : laidMetH Ybad.prog [("io.EOF", Rows.laid_io_EOF), ("bufio.errNegativeRead", Rows.laid_bufio_errNegativeRead)] W) : ∃ ea : Addr, W.cell? ⟨0, 0, none⟩ = some (.iface 50 (.pointer (some ea))) := by
  have hL' : laidMet Ybad.prog (("io.EOF", .iface errName (.ptr (.agg [.lit (.string [69, 79, 70])]))) :: [("bufio.errNegativeRead", Rows.laid_bufio_errNegativeRead)]) W := hL
  obtain ⟨a0, s0, hv0, _⟩ := laid_sentinel hL' eof eofType Ybad.underlying30 row50 Ybad.underlying50 Ybad.underlying69 rfl rfl Ybad.underlying9 cells69 cells9
  exact ⟨a0, by simpa using World.var?_cell eof hv0 0⟩

/-- What the walk is told of the bytes. -/
theorem bytes_of {H : Type} {enc : TypeId × Value → H} {W : World} {a : Option Addr} {len cap n base : Nat} {spare : Nat → Bool} {held : Bool} {x : DataW H × List MemPlace}
    (hf : DataW.trod enc Ybad.prog W base spare held n 22 [.slice a len cap] = some x) :
    ∃ (db dof : Nat) (Z : Nat → Int), len ≤ 9223372036854775807 ∧ ∀ i, i < len → a = some ⟨db, dof, none⟩ ∧ W.cell? ⟨db, dof + i, none⟩ = some (.int .u8 (Z i)) := by
  rcases open_ints Ybad.underlying22 Ybad.underlying5 (by kernel_rfl) hf with ⟨hcs, _⟩ | ⟨x, l, c, zs, hcs, _, hl, hm, hz, hx, hcell, hwz⟩
  · simp at hcs
    obtain ⟨rfl, rfl, rfl⟩ := hcs
    exact ⟨0, 0, fun _ => 0, by decide, fun i hi => absurd hi (Nat.not_lt_zero _)⟩
  · simp at hcs
    obtain ⟨rfl, rfl, rfl⟩ := hcs
    have hlz : len ≤ zs.length := by rw [hz]; split <;> omega
    have hml : len ≤ 9223372036854775807 := by unfold maxLen at hm; omega
    by_cases h0 : 0 < len
    · obtain ⟨b, off, rfl, hc⟩ := ints_at hcell (by omega)
      exact ⟨b, off, fun i => zs.getD i 0, hml, fun i hi => ⟨rfl, hc i (by omega)⟩⟩
    · exact ⟨0, 0, fun _ => 0, hml, fun i hi => by omega⟩

set_option maxRecDepth 100000 in
theorem lifted (os : Os) (started : os.Started) (H : Type) (enc : TypeId × Value → H) :
    ReturnsInHanded {} Ybad.checked os 3 .any (fun w args => (Rows.lawS5630AWholeSpec.pre enc Ybad.prog Ybad.f3 [] false w args ∧ laidMetH Ybad.prog [("io.EOF", Rows.laid_io_EOF), ("bufio.errNegativeRead", Rows.laid_bufio_errNegativeRead)] w) ∧ sizedMet enc Ybad.prog Ybad.f3 (OpenSpec.ofChange Rows.lawS5630AWholeSpec) false w args)
      (Rows.lawS5630AWholeSpec.post enc Ybad.prog Ybad.f3 false true false false) := by
  refine returnsInHanded_of_change_and (C := Ybad.checked) (X := fun w _ => laidMetH Ybad.prog [("io.EOF", Rows.laid_io_EOF), ("bufio.errNegativeRead", Rows.laid_bufio_errNegativeRead)] w) (fun _ _ _ hh h => h.of_heap hh) own started (by kernel_rfl) Ybad.func3
    (ChangeSpec.witness_shaped (enc := enc) (C := Ybad.checked) (os := os) (X := fun w _ => laidMetH Ybad.prog [("io.EOF", Rows.laid_io_EOF), ("bufio.errNegativeRead", Rows.laid_bufio_errNegativeRead)] w) false (World.doorLaid Ybad.prog 47 os) #[.slice none 0 0] 8 rfl (World.shaped_of_RefB (by kernel_rfl) (by kernel_rfl)) (by kernel_rfl) (by kernel_rfl) (by kernel_rfl) (door_met os _)) ?_
  intro W base args ds gs before hval0 hW _ _ hL _
  have hval : ∀ (j : Nat) t v, Ybad.f3.params[j]? = some t → args[j]? = some v → Value.okWide Ybad.prog W .any base t v := hval0
  have hW' := hW
  obtain ⟨p, q, hA0, hV, rfl, hfz, hnd⟩ := hW
  have hA : DataW.TrodAll enc Ybad.prog W 0 (fun _ => true) true Ybad.f3.params.toList args.toList ds p := hA0
  rw [Ybad.params3] at hA hval
  obtain ⟨v0, vs0, d0, ds0, p0, q0, hargs, rfl, rfl, h0, r0⟩ := trodAll_cons hA
  obtain ⟨rfl, rfl, rfl⟩ := trodAll_nil r0
  obtain rfl : args = #[v0] := by cases args; simp_all
  obtain ⟨rfl, rfl⟩ := trodVars_none hV
  obtain ⟨a0, len0, cap0, rfl⟩ := okWide_slice Ybad.underlying22 (hval 0 22 v0 rfl rfl)
  have k0 := h0
  have lt0 : ∀ x ∈ p0, x.block < W.heap.size := by obtain ⟨m, hm⟩ := k0; exact DataW.trod_lt m _ _ _ hm
  obtain ⟨db, dof, Z, hlen, hdata⟩ : ∃ (db dof : Nat) (Z : Nat → Int), len0 ≤ 9223372036854775807 ∧ ∀ i, i < len0 → a0 = some ⟨db, dof, none⟩ ∧ W.cell? ⟨db, dof + i, none⟩ = some (.int .u8 (Z i)) := by
    obtain ⟨fuel, hf⟩ := h0
    exact bytes_of hf
  obtain ⟨ea, hea⟩ := eof_of_laid hL
  clear hA0 hval0
  refine (A.law a0 len0 cap0 db dof Z ea W hlen hdata hea).mono fun e W' ⟨he, bel⟩ => ?_
  subst he
  exact ⟨_, rfl, _, _, _, [], _, [], hW', trodAll_mk1 (shut_bool Ybad.underlying4 _), (trodAll_cons_mk (Below.trod laidOut (by kernel_rfl) (of_decide_eq_true (by kernel_rfl)) k0 bel lt0) trodAll_mk0), rfl, bel.frame _, fun h => by cases h⟩

theorem row_holds : Rows.LawS5630AWholeSaid :=
  OpenClaim.holds_of_wide 3 Ybad.f3 rfl rfl rfl rfl rfl rfl rfl ⟨rfl, rfl, rfl, rfl, rfl⟩ rfl rfl rfl rfl rfl (by kernel_rfl) Ybad.func3 (by kernel_rfl)
    (of_decide_eq_true (by kernel_rfl)) (by unfold Func.isWrapper; first | (rw [if_pos (by decide +kernel)]; kernel_rfl) | (rw [if_neg (by decide +kernel)]; exact ⟨rfl, rfl⟩))
    (fun os started H enc _ => lifted os started H enc)

theorem proved : Rows.LawS5630AWholeCardSaid :=
  Claim7.holds_tied_plain_at .later [] [.sentinel, .sentinel] true (true, "9c1f485941548ea71b6fc518ed8258ab2550eabd295cfdacd8a358741ee782ea") true
    row_holds (fun _ h => by cases h) (by kernel_rfl) (fun _ h => by cases h) lawS5630AWhole_row_tie rfl ⟨rfl, rfl⟩ (by kernel_rfl) rfl
    (fun f fn hf hfn => by
      obtain rfl : f = 3 := Option.some.inj ((show Ybad.prog.funcNamed Rows.lawS5630AWholeRow.func = some 3 by kernel_rfl).symm.trans hf) |>.symm
      obtain rfl : fn = Ybad.f3 := (Option.some.inj (Ybad.func3.symm.trans hfn)).symm
      exact ⟨by kernel_rfl, fun j t ht => by
        rw [Ybad.params3] at ht
        have h3 : t = 22 := by
          rcases j with _ | j
          · simpa using ht.symm
          · simp at ht
        subst h3
        exact (show Ybad.prog.wantsStandIn 22 = false by kernel_rfl)⟩)
    (by kernel_rfl)
#print axioms proved
end Go.Proofs.YbulkdlooDoor.lawS5630AWhole
