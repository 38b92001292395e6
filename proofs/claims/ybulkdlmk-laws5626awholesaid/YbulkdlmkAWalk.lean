/-
  Law A: the walk.
-/
import Derived.Test.YbulkdlmkAFns
import Derived.Deep.QuietTactic
import Derived.BigQuiet
import Derived.Deep.DeepCutAuto
namespace Go.Proofs.Ybulkdlmk.A
open Go Go.RowKit Go.Deep Go.Proofs.Ybulkdlmk.Lib Go.Proofs.Ybulkdlmk.Fl

attribute [local go_sem] run_store_float

/-! ### The plain part -/

def ents (C : Nat → ByteArray) (U : Nat → Nat) : Nat → List (ByteArray × Nat)
  | 0 => []
  | k + 1 => put (C k) (U k) (ents C U k)

theorem get_ents (C : Nat → ByteArray) (U : Nat → Nat) (s : ByteArray) : ∀ k, get s (ents C U k) = lastTo C U s k
  | 0 => rfl
  | k + 1 => by
    simp only [ents, lastTo]
    rw [get_put, get_ents C U s k]
    by_cases h : s = C k
    · rw [if_pos h, if_pos h.symm]
    · rw [if_neg h, if_neg (fun e => h e.symm)]

theorem last_none (C : Nat → ByteArray) (U : Nat → Nat) (s : ByteArray) : ∀ k, (lastTo C U s k).isNone = true ↔ ∀ j, j < k → ¬ C j = s
  | 0 => by simp [lastTo]
  | k + 1 => by
    simp only [lastTo]
    by_cases h : C k = s
    · rw [if_pos h]
      simp only [Option.isNone_some, Bool.false_eq_true, false_iff]
      exact fun hh => hh k (Nat.lt_succ_self k) h
    · rw [if_neg h, last_none C U s k]
      constructor
      · intro hh j hj
        by_cases e : j = k
        · rw [e]; exact h
        · exact hh j (by omega)
      · exact fun hh j hj => hh j (by omega)

theorem last_some (C : Nat → ByteArray) (U : Nat → Nat) {i n : Nat} (h : i < n) : (lastTo C U (C i) n).isSome = true := by
  cases e : (lastTo C U (C i) n).isNone with
  | false => simpa [Option.isNone_eq_false_iff] using e
  | true => exact absurd rfl ((last_none C U (C i) n).1 e i h)

theorem len_ents (C : Nat → ByteArray) (U : Nat → Nat) (k : Nat) : (ents C U (k + 1)).length = (ents C U k).length + if (lastTo C U (C k) k).isNone then 1 else 0 := by
  simp only [ents]
  rw [len_put, get_ents]

theorem len_ents_le (C : Nat → ByteArray) (U : Nat → Nat) : ∀ k, (ents C U k).length ≤ k
  | 0 => Nat.le_refl _
  | k + 1 => by rw [len_ents]; have := len_ents_le C U k; split <;> omega

/-- What the walk carries of the world behind the map's filling: p lies at block pb. -/
structure St (w wx : World) (pb : Nat) (L : List (ByteArray × Nat)) : Prop where
  below : Below w.heap.size w wx
  map : IsMap wx w.heap.size L
  ptr : wx.cell? ⟨pb, 0, none⟩ = some (.map (some w.heap.size))

theorem st_drew {w wx : World} {pb : Nat} {L : List (ByteArray × Nat)} (h : St w wx pb L) (d : Nat) : St w (wx.drewN d) pb L :=
  ⟨⟨h.below.os, h.below.tape, h.below.output, h.below.size, h.below.block⟩, h.map, h.ptr⟩

theorem ents_of {w wx : World} {a : Option Addr} {len eb eo : Nat} {C : Nat → ByteArray} {U : Nat → Nat} (h : Below w.heap.size w wx)
    (hE : ∀ i, i < len → a = some ⟨eb, eo, none⟩ ∧ w.cell? ⟨eb, eo + i * 2, none⟩ = some (.string (C i)) ∧ w.cell? ⟨eb, eo + i * 2 + 1, none⟩ = some (.float .f64 (U i))) :
    ∀ i, i < len → a = some ⟨eb, eo, none⟩ ∧ wx.cell? ⟨eb, eo + i * 2, none⟩ = some (.string (C i)) ∧ wx.cell? ⟨eb, eo + i * 2 + 1, none⟩ = some (.float .f64 (U i)) := fun i hi => by
  obtain ⟨h1, h2, h3⟩ := hE i hi
  have hlt : eb < w.heap.size := World.block_lt_of_cell? _ _ h2
  exact ⟨h1, by rw [h.cell (p := ⟨eb, eo + i * 2, none⟩) hlt]; exact h2, by rw [h.cell (p := ⟨eb, eo + i * 2 + 1, none⟩) hlt]; exact h3⟩

/-! ### The walk -/

theorem makeMap_hint (n : Int) (w : World) : (Instr.makeMap 24 (some (.int .i64 n))).run Yba.prog w = .ok (.map (some w.heap.size)) (w.alloc (.map #[] 0)) := by
  simp [Instr.makeMap, run_underlying Yba.underlying24, asInt, asIntOf, Result.andThen]

set_option maxHeartbeats 1600000 in
set_option maxRecDepth 1000000 in
theorem law_a (a : Option Addr) (len cap eb eo : Nat) (C : Nat → ByteArray) (U : Nat → Nat) (s : ByteArray) (u : Nat) (pk : Int) (w : World) (hlen : len ≤ 9223372036854775807) (hpk : 0 ≤ pk ∧ pk ≤ 255)
    (hE : ∀ i, i < len → a = some ⟨eb, eo, none⟩ ∧ w.cell? ⟨eb, eo + i * 2, none⟩ = some (.string (C i)) ∧ w.cell? ⟨eb, eo + i * 2 + 1, none⟩ = some (.float .f64 (U i))) :
    Calls Yba.prog 3 #[.slice a len cap, .string s, .float .f64 u, .int .u8 pk] w fun e w' => e = .returned (.bool true) ∧ Below w.heap.size w w' := by
  by_cases hbig : 4096 < len
  · have hz : (4096 : Int) < (len : Int) := by omega
    go_enter Yba.func3, Yba.ntmps3
    go_wp2
    go_ret
    exact ⟨rfl, Below.refl _ _⟩
  have hz : ¬ ((4096 : Int) < (len : Int)) := by omega
  have hmm := makeMap_hint
  go_enter Yba.func3, Yba.ntmps3
  go_wp2_with fail
  go_loopg [37] len (fun g s37 wr => ∃ (k : Nat), k ≤ len ∧ g = len - k ∧ s37 = .int .i64 k ∧ Below w.heap.size w wr ∧ IsMap wr w.heap.size (ents C U k))
  case atStart => exact ⟨0, Nat.zero_le _, rfl, rfl, (Below.refl _ _).alloc (Nat.le_refl _) _, isMap_made w⟩
  case round =>
    obtain ⟨k, hk, rfl, rfl, hB, hM⟩ := hrel
    by_cases hkl : k < len
    · have hkz : (k : Int) < (len : Int) := by omega
      obtain ⟨ha, t1, t2⟩ := hE k hkl
      subst ha
      have hebl : eb < w.heap.size := World.block_lt_of_cell? _ _ t1
      have t3 : wr.cell? ⟨eb, eo + k * 2, none⟩ = some (.string (C k)) := by rw [hB.cell (p := ⟨eb, eo + k * 2, none⟩) hebl]; exact t1
      have t4 : wr.cell? ⟨eb, eo + k * 2 + 1, none⟩ = some (.float .f64 (U k)) := by rw [hB.cell (p := ⟨eb, eo + k * 2 + 1, none⟩) hebl]; exact t2
      have hMa : ∀ o, IsMap (wr.alloc o) w.heap.size (ents C U k) := fun o => hM.kept (by rw [blk_alloc_lt _ _ _ hM.lt])
      go_wp2_with (at_mapUpdate; refine wpList_put _ rfl (.tmp 41) (.tmp 43) (.tmp 45) 24 rfl 9 23 Yba.underlying24 Yba.underlying9 w.heap.size (ents C U k) rfl (hMa _) (C k) (U k) rfl rfl ?_; intro w1 hM1 hg1 hs1)
      go_roundg (len - (k + 1))
      case measure => go_light; omega
      case rel => go_light; exact ⟨k + 1, by omega, rfl, by go_num, (hB.alloc hB.size _).grown hg1 (by have := hB.size; simp; omega) (by intro j hj; simp at hj; omega), hM1⟩
    · have hkz : ¬ ((k : Int) < (len : Int)) := by omega
      have hkl' : len = k := by omega
      subst hkl'
      clear hkl hkz
      obtain ⟨pn, rfl⟩ := Int.eq_ofNat_of_zero_le hpk.1
      have hpn : pn ≤ 255 := by omega
      clear hpk
      go_upto_region 9 with fail
      go_cut [54] (fun s54 wx => wr = wx ∧ ∃ b : Bool, s54 = .bool b ∧ (b = true → 0 < len))
      case first =>
        by_cases h1 : pn % 2 = 1
        · have h1z : ((pn : Int) % 2 == 1) = true := by rw [beq_iff_eq]; omega
          by_cases h2 : 0 < len
          · have h2z : (0 : Int) < (len : Int) := by omega
            go_wp2_with fail
            go_meet
            go_light
            exact ⟨rfl, _, rfl, fun _ => h2⟩
          · have h2z : ¬ ((0 : Int) < (len : Int)) := by omega
            go_wp2_with fail
            go_meet
            go_light
            exact ⟨rfl, _, rfl, fun h => by cases h⟩
        · have h1z : ((pn : Int) % 2 == 1) = false := by rw [beq_eq_false_iff_ne]; omega
          go_wp2_with fail
          go_meet
          go_light
          exact ⟨rfl, _, rfl, fun h => by cases h⟩
      case rest =>
        obtain ⟨rfl, b, rfl, hb⟩ := hcut
        go_upto_if 54 with fail
        go_cut [1] (fun s1 wx => wr = wx ∧ ∃ s' : ByteArray, s1 = .string s')
        case first =>
          cases b
          · go_wp2_with fail
            go_meet
            go_light
            exact ⟨rfl, _, rfl⟩
          · have h2 := hb rfl
            have h2z : ((len : Int) == 0) = false := by rw [beq_eq_false_iff_ne]; omega
            obtain ⟨j, hj, ej⟩ : ∃ j : Nat, j < len ∧ (pn : Int) / 2 % (len : Int) = (j : Int) := ⟨pn / 2 % len, Nat.mod_lt _ h2, by simp⟩
            obtain ⟨ha, t1, _⟩ := hE j hj
            subst ha
            have t3 : wr.cell? ⟨eb, eo + j * 2, none⟩ = some (.string (C j)) := by rw [hB.cell (p := ⟨eb, eo + j * 2, none⟩) (World.block_lt_of_cell? _ _ t1)]; exact t1
            go_wp2_with fail
            go_meet
            go_light
            exact ⟨rfl, _, rfl⟩
        case rest =>
          obtain ⟨rfl, s', rfl⟩ := hcut
          go_wp2_with fail
          refine (secondsFor_any wr.heap.size w.heap.size (ents C U len) s' u _ ?_ ?_).mono ?_
          · simp
          · exact hM.kept (by rw [blk_alloc_lt _ _ _ hM.lt])
          rintro e w1 ⟨got, d1, rfl, hsec, hw1⟩
          have hS : St w w1 wr.heap.size (ents C U len) := by
            rw [hw1]
            exact st_drew ⟨hB.alloc hB.size _, hM.kept (by rw [blk_alloc_lt _ _ _ hM.lt]), by simp⟩ _
          have hsec' : Sec u ((lastTo C U s' len).getD 0) got := by rw [← get_ents]; exact hsec
          generalize wr.heap.size = pb at hS ⊢
          clear hw1 hsec hM hB hmm hb
          rw [get_ents]
          go_wp2_with fail
          refine (last_any a len cap eb eo C U s' w1 (by omega) (ents_of hS.below hE)).mono ?_
          rintro e w2 ⟨rfl, rfl⟩
          obtain ⟨pr, hpr⟩ : ∃ pr, (lastTo C U s' len).getD 0 = pr := ⟨_, rfl⟩
          obtain ⟨ok, hok⟩ : ∃ ok, (lastTo C U s' len).isSome = ok := ⟨_, rfl⟩
          rw [hpr] at hsec' ⊢
          rw [hok]
          clear hpr hok
          go_upto_if 86 with (first
            | (refine wpList_float _ rfl .mul (by simp) 23 23 (.tmp 81) _ rfl u 4660134898793709568 rfl rfl ?_; intro am d1 h1)
            | (refine wpList_float _ rfl .quo (by simp) 23 23 (.tmp 82) (.tmp 83) rfl _ pr rfl rfl ?_; intro dd d2 h2)
            | fail)
          have hS2 := st_drew hS (d1 + d2)
          generalize hw2 : w2.drewN (d1 + d2) = w3 at hS2 ⊢
          clear hw2 hS
          go_cut [17] (fun s17 wx => ∃ wv : Nat, s17 = .float .f64 wv ∧ Sec u pr wv ∧ St w wx pb (ents C U len))
          case first =>
            cases hbig : tooBig dd with
            | true =>
              have hbz : (FloatKind.f64.format.order dd 9218868437227405311 == some Ordering.gt) = true := hbig
              rw [hbz]
              go_wp2_with (first
                | (refine wpList_float _ rfl .quo (by simp) 23 23 _ (.tmp 87) rfl 4660134898793709568 pr rfl rfl ?_; intro q d3 h3)
                | (refine wpList_float _ rfl .mul (by simp) 23 23 (.tmp 89) (.tmp 90) rfl u _ rfl rfl ?_; intro r d4 h4)
                | fail)
              go_meet
              go_light
              exact ⟨_, rfl, ⟨am, dd, h1, h2, .inl ⟨hbig, _, h3, h4⟩⟩, st_drew hS2 _⟩
            | false =>
              have hbz : (FloatKind.f64.format.order dd 9218868437227405311 == some Ordering.gt) = false := hbig
              rw [hbz]
              go_wp2_with fail
              go_meet
              go_light
              exact ⟨_, rfl, ⟨am, dd, h1, h2, .inr ⟨hbig, rfl⟩⟩, hS2⟩
          case rest =>
            obtain ⟨wv, rfl, hsec2, hS3⟩ := hcut
            clear hS2 h1 h2
            have hsame := sec_same hsec' hsec2
            clear hsec' hsec2
            go_wp2_with (go_at_call 7; refine (same_true _ _ hsame _).mono ?_; rintro e w' ⟨rfl, rfl⟩)
            -- the second loop: the distinct names counted
            go_loopg [20, 21] len (fun g s20 s21 wx => ∃ (i : Nat), i ≤ len ∧ g = len - i ∧ s21 = .int .i64 i ∧ s20 = .int .i64 (ents C U i).length ∧ St w wx pb (ents C U len))
            case atStart => exact ⟨0, Nat.zero_le _, rfl, rfl, rfl, hS3⟩
            case round =>
              clear hS3
              obtain ⟨i, hi, rfl, rfl, rfl, hS⟩ := hrel
              by_cases hil : i < len
              · have hiz : (i : Int) < (len : Int) := by omega
                have hle := len_ents_le C U i
                go_wp2_with fail
                go_loopg [22, 23] i (fun g s22 s23 wx => ∃ (j : Nat), j ≤ i ∧ g = i - j ∧ s23 = .int .i64 j ∧ s22 = .bool true ∧ Hid (∀ j', j' < j → ¬ C j' = C i) ∧ St w wx pb (ents C U len))
                case atStart => exact ⟨0, Nat.zero_le _, rfl, rfl, rfl, fun j' hj => absurd hj (Nat.not_lt_zero _), hS⟩
                case round =>
                  clear hS
                  obtain ⟨j, hj, rfl, rfl, rfl, HD, hS⟩ := hrel
                  by_cases hji : j < i
                  · have hjz : (j : Int) < (i : Int) := by omega
                    have hjz2 : (j : Int) < (len : Int) := by omega
                    obtain ⟨ha, t1, _⟩ := ents_of hS.below hE i hil
                    obtain ⟨_, t2, _⟩ := ents_of hS.below hE j (by omega)
                    subst ha
                    by_cases hc : C j = C i
                    · have hb : ((C j).toList == (C i).toList) = true := by rw [hc]; simp
                      have hstep : (ents C U (i + 1)).length = (ents C U i).length := by
                        rw [len_ents, if_neg (fun h => (last_none C U (C i) i).1 h j hji hc)]; rfl
                      have HS : Hid ((ents C U (i + 1)).length = (ents C U i).length) := hstep
                      clear hc hstep
                      go_wp2_with fail
                      go_quiet (fail)
                      go_wp2_with fail
                      go_roundg (len - (i + 1))
                      case measure => go_light; omega
                      case rel => go_light; exact ⟨i + 1, by omega, rfl, by go_num, by rw [HS.out], st_drew hS _⟩
                    · have hb : ((C j).toList == (C i).toList) = false := by rw [beq_eq_false_iff_ne]; intro h; exact hc (toList_inj h)
                      go_wp2_with fail
                      go_quiet (fail)
                      go_wp2_with fail
                      go_roundg (i - (j + 1))
                      case measure => go_light; omega
                      case rel => go_light; exact ⟨j + 1, by omega, rfl, by go_num, rfl, fun j' hj' => by
                        by_cases e : j' = j
                        · rw [e]; exact hc
                        · exact HD.out j' (by omega), st_drew hS _⟩
                  · have hjz : ¬ ((j : Int) < (i : Int)) := by omega
                    have hstep : (ents C U (i + 1)).length = (ents C U i).length + 1 := by
                      rw [len_ents, if_pos ((last_none C U (C i) i).2 (fun j' hj' => HD.out j' (by omega)))]
                    have HS : Hid ((ents C U (i + 1)).length = (ents C U i).length + 1) := hstep
                    clear hstep
                    go_wp2_with fail
                    go_roundg (len - (i + 1))
                    case measure => go_light; omega
                    case rel => go_light; exact ⟨i + 1, by omega, rfl, by go_num, by rw [HS.out]; go_num, hS⟩
              · have hiz : ¬ ((i : Int) < (len : Int)) := by omega
                have hil' : len = i := by omega
                subst hil'
                have hp := hS.ptr
                have hl := fun ty => run_lenMap (P := Yba.prog) hS.map Yba.underlying24 ty
                go_wp2_with fail
                clear hp hl
                -- the last loop: each entry's price is the last one's
                have fb := fbits
                go_loopg [24] len (fun g s24 wx => ∃ (i : Nat), i ≤ len ∧ g = len - i ∧ s24 = .int .i64 i ∧ St w wx pb (ents C U len))
                case atStart => exact ⟨0, Nat.zero_le _, rfl, rfl, hS⟩
                case round =>
                  clear hS hil hiz hi
                  obtain ⟨i, hi, rfl, rfl, hS⟩ := hrel
                  by_cases hil : i < len
                  · have hiz : (i : Int) < (len : Int) := by omega
                    have hp := hS.ptr
                    have hEw := ents_of hS.below hE
                    obtain ⟨ha, t1, _⟩ := hEw i hil
                    subst ha
                    have hl : ∀ n, (Instr.lookup 24 (.map (some w.heap.size)) (.string (C i)) true).run Yba.prog (wr.drewN n) = .ok (.tuple #[.float .f64 ((lastTo C U (C i) len).getD 0), .bool true]) (wr.drewN n) := fun n => by
                      have := run_look (P := Yba.prog) (st_drew hS n).map Yba.underlying24 Yba.underlying9 zero23 (C i)
                      rw [get_ents, last_some C U hil] at this
                      exact this
                    go_wp2_with fail
                    go_quiet (fail)
                    go_wp2_with fail
                    refine (last_any (some ⟨eb, eo, none⟩) len cap eb eo C U (C i) _ (by omega) (ents_of (st_drew hS _).below (fun i hi => ⟨rfl, (hE i hi).2⟩))).mono ?_
                    rintro e w' ⟨rfl, rfl⟩
                    clear hl hEw
                    obtain ⟨x, hx⟩ : ∃ x, (lastTo C U (C i) len).getD 0 = x := ⟨_, rfl⟩
                    rw [hx, last_some C U hil]
                    clear hx
                    go_wp2_with fail
                    go_roundg (len - (i + 1))
                    case measure => go_light; omega
                    case rel => go_light; exact ⟨i + 1, by omega, rfl, by go_num, st_drew hS _⟩
                  · have hiz : ¬ ((i : Int) < (len : Int)) := by omega
                    go_wp2
                    go_ret
                    exact ⟨rfl, hS.below⟩
end Go.Proofs.Ybulkdlmk.A
