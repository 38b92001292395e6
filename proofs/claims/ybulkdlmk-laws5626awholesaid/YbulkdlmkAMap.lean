/-
  A map[string]float64 that the call makes: what it holds as a list of pairs; what a store, a look-up, len do. No program's text in sight.
-/
import Derived.Maps.Own
import Derived.Maps.OwnSet
import Derived.Test.YbulkdlmkLib
namespace Go.Proofs.Ybulkdlmk.A
open Go Go.RowKit Go.Deep Go.MapKept

/-! ### Plain lists of pairs -/

def get (s : ByteArray) : List (ByteArray × Nat) → Option Nat
  | [] => none
  | p :: L => if s = p.1 then some p.2 else get s L

def put (s : ByteArray) (b : Nat) : List (ByteArray × Nat) → List (ByteArray × Nat)
  | [] => [(s, b)]
  | p :: L => if s = p.1 then (s, b) :: L else p :: put s b L

theorem get_put (s t : ByteArray) (b : Nat) : ∀ L, get t (put s b L) = if t = s then some b else get t L
  | [] => by simp [get, put]
  | p :: L => by
    unfold put
    by_cases h : s = p.1
    · rw [if_pos h]
      simp only [get]
      by_cases ht : t = s
      · simp [ht]
      · rw [if_neg ht, if_neg ht, if_neg (by rw [← h]; exact ht)]
    · rw [if_neg h]
      simp only [get]
      rw [get_put s t b L]
      by_cases ht : t = p.1
      · have : ¬ t = s := fun e => h (by rw [← e]; exact ht)
        rw [if_pos ht, if_neg this]
        rw [if_pos ht]
      · rw [if_neg ht, if_neg ht]

theorem len_put (s : ByteArray) (b : Nat) : ∀ L, (put s b L).length = L.length + if (get s L).isNone then 1 else 0
  | [] => by simp [get, put]
  | p :: L => by
    unfold put get
    by_cases h : s = p.1
    · simp [h]
    · rw [if_neg h, if_neg h]
      simp only [List.length_cons]
      rw [len_put s b L]
      omega

/-! ### The map's block -/

def pairOf (e : MapEntry) : Value × Value := (e.key, e.val)
def asPair (p : ByteArray × Nat) : Value × Value := (.string p.1, .float .f64 p.2)

def IsMap (w : World) (B : Nat) (L : List (ByteArray × Nat)) : Prop := ∃ es clock, w.heap[B]? = some (.map es clock) ∧ es.toList.map pairOf = L.map asPair

/-- What the model's search gives, and where. -/
theorem find_spec (s : ByteArray) (b : Nat) : ∀ (L : List (ByteArray × Nat)) (es : List MapEntry) (n : Nat), es.map pairOf = L.map asPair →
    (Instr.findNow .string (.string s) es n = some none ∧ get s L = none ∧ put s b L = L ++ [(s, b)]) ∨
    (∃ i v e, Instr.findNow .string (.string s) es n = some (some (n + i, .float .f64 v)) ∧ get s L = some v ∧ es[i]? = some e ∧ e.key = .string s ∧ put s b L = L.set i (s, b))
  | [], es, n, h => by
    have : es = [] := by simpa using h
    subst this
    exact .inl ⟨rfl, rfl, rfl⟩
  | p :: L, [], n, h => by simp at h
  | p :: L, e :: es, n, h => by
    simp only [List.map_cons, List.cons.injEq] at h
    obtain ⟨h0, h1⟩ := h
    have hk : e.key = .string p.1 := congrArg Prod.fst h0
    have hv : e.val = .float .f64 p.2 := congrArg Prod.snd h0
    by_cases hs : s = p.1
    · refine .inr ⟨0, p.2, e, ?_, by simp [get, hs], rfl, by rw [hk, hs], by simp [put, hs]⟩
      have hb : (s == p.1) = true := (bytes_beq _ _).2 hs
      simp [Instr.findNow, hk, hv, Instr.sameNow, hb]
    · have hb : (s == p.1) = false := by
        cases hbb : (s == p.1) with
        | false => rfl
        | true => exact absurd ((bytes_beq _ _).1 hbb) hs
      have hf : Instr.findNow .string (.string s) (e :: es) n = Instr.findNow .string (.string s) es (n + 1) := by simp [Instr.findNow, hk, Instr.sameNow, hb]
      rcases find_spec s b L es (n + 1) h1 with ⟨a1, a2, a3⟩ | ⟨i, v, e', a1, a2, a3, a4, a5⟩
      · exact .inl ⟨by rw [hf, a1], by simp [get, hs, a2], by simp [put, hs, a3]⟩
      · exact .inr ⟨i + 1, v, e', by rw [hf, a1, show n + 1 + i = n + (i + 1) by omega], by simp [get, hs, a2], by simpa using a3, a4, by simp [put, hs, a5]⟩

section
variable {P : Program} {w : World} {B : Nat} {L : List (ByteArray × Nat)} {t k e : TypeId}

/-- 'v, ok := m[s]'. -/
theorem run_look (h : IsMap w B L) (ht : P.underlying t = some (.map k e)) (hk : P.underlying k = some .string) (hz : ∀ w, (zeroValue e).run P w = .ok (.float .f64 0) w) (s : ByteArray) :
    (Instr.lookup t (.map (some B)) (.string s) true).run P w = .ok (.tuple #[.float .f64 ((get s L).getD 0), .bool (get s L).isSome]) w := by
  obtain ⟨es, clock, hb, hL⟩ := h
  have hc := run_checkKey (P := P) (w := w) hk (k := .string s) (by simp [IsKey]) es.isEmpty 9999
  simp only [Nat.reduceAdd] at hc
  rcases find_spec s 0 L es.toList 0 hL with ⟨a1, a2, _⟩ | ⟨i, v, e', a1, a2, _⟩
  · simp [Instr.lookup, run_underlying ht, MapKept.run_getObj_map (P := P) hb, hc, run_findKey hk a1, hz, a2, Result.andThen]
  · simp [Instr.lookup, run_underlying ht, MapKept.run_getObj_map (P := P) hb, hc, run_findKey hk a1, a2, Result.andThen]

/-- 'm[s] = b'. -/
theorem run_put (h : IsMap w B L) (ht : P.underlying t = some (.map k e)) (hk : P.underlying k = some .string) (s : ByteArray) (b : Nat) :
    ∃ w', (Instr.mapUpdate t (.map (some B)) (.string s) (.float .f64 b)).run P w = .ok () w' ∧ IsMap w' B (put s b L) ∧ w.grownBy w' (some B) ∧ w'.heap.size = w.heap.size := by
  obtain ⟨es, clock, hb, hL⟩ := h
  have hc := run_checkKey (P := P) (w := w) hk (k := .string s) (by simp [IsKey]) false 9999
  simp only [Nat.reduceAdd] at hc
  have hg : ∀ o, w.grownBy { w with heap := w.heap.setIfInBounds B o } (some B) := fun o =>
    ⟨rfl, rfl, rfl, by simp, fun j _ hj => (heap_set hb).2 j (fun e => hj (by rw [e]))⟩
  rcases find_spec s b L es.toList 0 hL with ⟨a1, a2, a3⟩ | ⟨i, v, e', a1, a2, a4, a5, a3⟩
  · refine ⟨_, by simp [Instr.mapUpdate, run_underlying ht, MapKept.run_getObj_map (P := P) hb, hc, run_findKey hk a1, MapKept.run_setObj_map (P := P) _ hb, Result.andThen]; rfl, ?_, hg _, by simp⟩
    refine ⟨_, _, (heap_set hb).1, ?_⟩
    rw [a3]
    simp [hL, pairOf, asPair]
  · have he : es[i]? = some e' := by simpa using a4
    refine ⟨_, by simp [Instr.mapUpdate, run_underlying ht, MapKept.run_getObj_map (P := P) hb, hc, run_findKey hk a1, he, a5, run_keyThatStays (d := .string) (k := .string s) (by simp [IsKey]), MapKept.run_setObj_map (P := P) _ hb, Result.andThen]; rfl, ?_, hg _, by simp⟩
    refine ⟨_, _, (heap_set hb).1, ?_⟩
    rw [a3]
    apply List.ext_getElem?
    intro j
    have hj : (es.toList.map pairOf)[j]? = (L.map asPair)[j]? := by rw [hL]
    simp only [List.getElem?_map, Array.getElem?_toList] at hj
    simp only [List.getElem?_map, Array.getElem?_toList, Array.getElem?_modify, List.getElem?_set]
    have hlen : es.size = L.length := by simpa using congrArg List.length hL
    have hi : i < es.size := (Array.getElem?_eq_some_iff.1 he).1
    by_cases hij : i = j
    · subst hij
      rw [if_pos rfl, if_pos rfl, he, if_pos (by omega)]
      simp [pairOf, asPair]
    · rw [if_neg hij, if_neg hij]
      exact hj

theorem run_lenMap (h : IsMap w B L) (ht : P.underlying t = some (.map k e)) (ty : TypeId) : (Builtin.len_ #[t] ty #[.map (some B)]).run P w = .ok (goInt L.length) w := by
  obtain ⟨es, clock, hb, hL⟩ := h
  have hlen : es.size = L.length := by simpa using congrArg List.length hL
  simp [Builtin.len_, run_underlying ht, MapKept.run_getObj_map (P := P) hb, hlen, Result.andThen]

theorem IsMap.kept {w' : World} (h : IsMap w B L) (e : w'.heap[B]? = w.heap[B]?) : IsMap w' B L := by
  obtain ⟨es, clock, hb, hL⟩ := h
  exact ⟨es, clock, by rw [e]; exact hb, hL⟩

theorem isMap_made (w : World) : IsMap (w.alloc (.map #[] 0)) w.heap.size [] := ⟨#[], 0, (heap_alloc w _).1, rfl⟩

theorem IsMap.lt (h : IsMap w B L) : B < w.heap.size := by
  obtain ⟨es, clock, hb, _⟩ := h
  exact (Array.getElem?_eq_some_iff.1 hb).1
end

/-- 'm[s] = b' at the operation, for the walk. -/
theorem wpList_put {P : Program} (w : World) {ops : Array Oper} {rest : List Oper} {o : Oper} {a : Act} {Q : Exit → Act → World → Prop}
    (hg : o.guard = none) (m x v : Operand) (t : TypeId) (hop : o.op = Op.mapUpdate t m x v) (k e : TypeId) (ht : P.underlying t = some (.map k e)) (hk : P.underlying k = some .string) (B : Nat) (L : List (ByteArray × Nat))
    (hm : a.eval m = .map (some B)) (h : IsMap w B L) (s : ByteArray) (b : Nat) (hx : a.eval x = .string s) (hv : a.eval v = .float .f64 b)
    (hK : ∀ w', IsMap w' B (put s b L) → w.grownBy w' (some B) → w'.heap.size = w.heap.size → wpList P ops Q rest (a.put o.dst undef) w') :
    wpList P ops Q (o :: rest) a w := by
  refine wpList_plain hg fun K' hK' => ?_
  obtain ⟨w', hrun, r1, r2, r3⟩ := run_put (P := P) h ht hk s b
  unfold Oper.wp
  simp [execOp, hop, hm, hx, hv, hrun, Result.andThen]
  exact hK' _ _ (hK w' r1 r2 r3)

end Go.Proofs.Ybulkdlmk.A
