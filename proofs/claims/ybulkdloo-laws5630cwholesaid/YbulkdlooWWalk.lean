/-
  Law CWhole: the walk.
-/
import Derived.Test.YbulkdlooWStrs
import Derived.Laws.BytesArg
import Derived.Laws.BytesString
import Derived.Deep.DeepCutAuto
namespace Go.Proofs.Ybulkdloo.W
open Go Go.RowKit Go.Deep Go.Proofs.Ybulkdloo.C Go.Proofs.Ybulkdloo.BP

/-- The plain sum. -/
def T (F : Nat → Int) : Nat → Int
  | 0 => 0
  | k + 1 => T F k + F k

theorem wrap64_zero : wrap64 0 = 0 := by unfold wrap64; omega

theorem SI_eq (F : Nat → Int) : ∀ n, SI F n = wrap64 (T F n)
  | 0 => wrap64_zero.symm
  | n + 1 => by
    show wrap64 (SI F n + F n) = wrap64 (T F n + F n)
    rw [SI_eq F n]
    unfold wrap64
    omega

theorem back_step (t s f : Int) : wrap64 (wrap64 (t - (s + f)) + f) = wrap64 (t - s) := by
  unfold wrap64
  omega

def nums (s : ByteArray) : List Int := s.data.toList.map fun b => (b.toNat : Int)
theorem nums_length (s : ByteArray) : (nums s).length = s.size := by simp [nums]
theorem nums_append (a b : ByteArray) : nums (a ++ b) = nums a ++ nums b := by simp [nums, ByteArray.data_append]
theorem strOf_nums (s : ByteArray) : strOfNums (nums s) = s := by
  have e : (fun b : UInt8 => UInt8.ofNat ((b.toNat : Int)).toNat) = id := by funext b; simp
  unfold strOfNums nums
  rw [List.map_map]
  show ByteArray.mk (List.map (fun b : UInt8 => UInt8.ofNat ((b.toNat : Int)).toNat) s.data.toList).toArray = s
  rw [e, List.map_id]

theorem make0 {P : Program} (t e : TypeId) (z : Value) (bytes : Nat) (ht : P.underlying t = some (.slice e)) (hinfo : (P.info? e).map (fun i => (i.zero, i.size, i.bytes)) = some (some z, 1, bytes)) (hz1 : z.cells = #[z])
    (kl kc : IntKind) (n : Nat) (hbytes : bytes * n ≤ 281474976710656) (h63 : n ≤ 9223372036854775807) (w : World) :
    (Instr.makeSlice t (.int kl 0) (.int kc (n : Int))).run P w = .ok (.slice (some ⟨w.heap.size, 0, none⟩) 0 n) (w.alloc (.cells (madeCells #[z] n) e)) := by
  obtain ⟨i, hi, hz, hs, hb⟩ := info_parts hinfo
  have hb' : (i.bytes : Int) * (n : Int) ≤ 281474976710656 := by
    have h : ((i.bytes * n : Nat) : Int) ≤ 281474976710656 := by rw [hb]; omega
    rwa [Int.natCast_mul] at h
  have hr := run_make (P := P) w t e i z ht hi hz kl kc 0 n (by omega) (by omega) hb' (by omega)
  simp only [Int.toNat_natCast, Int.toNat_zero, hs, Nat.mul_one, hz1] at hr
  exact hr

theorem below_le {B B' : Nat} {w w' : World} (h : Below B w w') (hle : B' ≤ B) : Below B' w w' := ⟨h.os, h.tape, h.output, h.size, fun k hk => h.block k (by omega)⟩
theorem below_cell {B : Nat} {w w' : World} (h : Below B w w') {p : Addr} {v : Value} (hp : w.cell? p = some v) (hB : p.block < B) : w'.cell? p = some v := by
  rw [World.cell?_of_block (w := w) (h.block p.block hB)]; exact hp

set_option maxHeartbeats 4000000 in
set_option maxRecDepth 1000000 in
theorem law (a1 a2 : Option Addr) (len1 cap1 db1 do1 len2 cap2 db2 do2 : Nat) (Z : Nat → Int) (S : Nat → ByteArray) (w : World) (hn1 : a1 = none → cap1 = 0) (hn2 : a2 = none → cap2 = 0)
    (hl1 : len1 ≤ 9223372036854775807) (hl2 : len2 ≤ 9223372036854775807)
    (hd1 : ∀ i, i < len1 → a1 = some ⟨db1, do1, none⟩ ∧ w.cell? ⟨db1, do1 + i, none⟩ = some (.int .i64 (Z i)))
    (hd2 : ∀ i, i < len2 → a2 = some ⟨db2, do2, none⟩ ∧ w.cell? ⟨db2, do2 + i, none⟩ = some (.string (S i))) (hS : ∀ i, i < len2 → (S i).size ≤ 140737488355328) :
    Calls Yba.prog 5 #[.slice a1 len1 cap1, .slice a2 len2 cap2] w fun e w' => e = .returned (.bool true) ∧ Below w.heap.size w w' := by
  by_cases hb1 : 1048576 < len1
  · have hz : (1048576 : Int) < (len1 : Int) := by omega
    go_enter Yba.func5, Yba.ntmps5
    go_wp2
    go_ret
    exact ⟨rfl, Below.refl _ _⟩
  have hz1 : ¬ ((1048576 : Int) < (len1 : Int)) := by omega
  by_cases hb2 : 4096 < len2
  · have hz : (4096 : Int) < (len2 : Int) := by omega
    go_enter Yba.func5, Yba.ntmps5
    go_wp2
    go_ret
    exact ⟨rfl, Below.refl _ _⟩
  have hz2 : ¬ ((4096 : Int) < (len2 : Int)) := by omega
  go_enter Yba.func5, Yba.ntmps5
  go_wp2_with fail
  go_loopg [5, 6] len2 (fun g s5 s6 wx => ∃ (i q : Nat), i ≤ len2 ∧ g = len2 - i ∧ s6 = .int .i64 i ∧ s5 = .int .i64 q ∧ q = (SS S i).size ∧ q ≤ 65536 ∧ w = wx)
  case atStart => exact ⟨0, 0, Nat.zero_le _, rfl, rfl, rfl, rfl, by omega, rfl⟩
  case round =>
    obtain ⟨i, q, hi, rfl, rfl, rfl, hq, hq6, rfl⟩ := hrel
    have HQ : Hid (q = (SS S i).size) := hq
    clear hq
    by_cases hil : i < len2
    · have hiz : (i : Int) < (len2 : Int) := by omega
      obtain ⟨ha, t1⟩ := hd2 i hil
      subst ha
      have hsi := hS i hil
      obtain ⟨r, hr⟩ : ∃ r : Nat, q + (S i).size = r := ⟨_, rfl⟩
      have hri : (q : Int) + ((S i).size : Int) = (r : Int) := by omega
      have HR : Hid ((SS S (i + 1)).size = r) := by rw [show (SS S (i + 1)).size = _ from size_SS S i, ← HQ.out]; exact hr
      have hrb : r ≤ 140737488421000 := by omega
      clear hr hd1 hd2 hS
      by_cases hbig : 65536 < r
      · have hbz : (65536 : Int) < (r : Int) := by omega
        go_wp2_with fail
        go_ret
        exact ⟨rfl, Below.refl _ _⟩
      · have hbz : ¬ ((65536 : Int) < (r : Int)) := by omega
        go_wp2_with fail
        go_roundg (len2 - (i + 1))
        case measure => go_light; omega
        case rel => go_light; exact ⟨i + 1, r, by omega, rfl, by go_num, rfl, HR.out.symm, by omega, rfl⟩
    · have hiz : ¬ ((i : Int) < (len2 : Int)) := by omega
      obtain rfl : len2 = i := by omega
      have hm1 : len1 ≤ 1048576 := by omega
      have hm2 : len2 ≤ 1048576 := by omega
      have hsz : (SS S len2).size ≤ 65536 := by rw [← HQ.out]; exact hq6
      go_wp2_with (first | (go_at_call 16; refine (cloneI a1 len1 cap1 db1 do1 Z _ hm1 hn1 hd1).mono ?_; rintro e w1 ⟨x1, cp1, rfl, hB1, hcl1⟩) | (go_at_call 17; refine (cloneS a2 len2 cap2 db2 do2 S _ hm2 hn2 (fun i hi => ⟨(hd2 i hi).1, below_cell hB1 (hd2 i hi).2 (World.block_lt_of_cell? _ _ (hd2 i hi).2)⟩)).mono ?_; rintro e w2 ⟨x2, cp2, rfl, hB2, hcl2⟩))
      refine (mkI _ _ _ _ _ _).mono ?_
      rintro e w3 ⟨rfl, hw3⟩
      have h5 := five w2 w2.heap.size rfl (.int .i64 0) (.int .i64 0) (.slice a1 len1 cap1) (.pointer (some ⟨w2.heap.size, 0, none⟩)) (.pointer (some ⟨w2.heap.size + 1, 0, none⟩)) 3 3 41 49 49
      rw [← hw3] at h5
      clear hw3
      have hs5 := h5.size
      have z1 := hB1.size
      have z2 := hB2.size
      have hB02 : Below w.heap.size w w2 := hB1.trans (below_le hB2 z1)
      have hB23 : Below w2.heap.size w2 w3 := h5.below _ _ (Below.refl _ _) (Nat.le_refl _)
      have hN : ∃ N, (∀ i, i < len1 → a1 = some ⟨N, do1, none⟩ ∧ w3.cell? ⟨N, do1 + i, none⟩ = some (.int .i64 (Z i))) ∧ N < w2.heap.size + 5 ∧ w2.heap.size ≠ N := by
        rcases Nat.eq_zero_or_pos len1 with h | h
        · exact ⟨w2.heap.size + 1, fun i hi => by omega, by omega, by omega⟩
        · have hb : db1 < w.heap.size := World.block_lt_of_cell? _ _ (hd1 0 h).2
          exact ⟨db1, fun i hi => ⟨(hd1 i hi).1, below_cell hB23 (below_cell hB02 (hd1 i hi).2 hb) (by simp; omega)⟩, by omega, by omega⟩
      obtain ⟨N, hdN, hNl, hNe⟩ := hN
      go_wp2_with fail
      refine (sumI a1 _ _ _ w2.heap.size N do1 len1 cap1 Z w3 hm1 h5.c3 h5.c0 h5.f0 h5.c2 hdN (by omega) (by omega) (by omega) hNe).mono ?_
      rintro e w4 ⟨rfl, hT⟩
      have hB24 : Below w2.heap.size w2 w4 := hT.below (hB23.alloc (by omega) _) (by omega) (by omega)
      have q1 : w4.cell? ⟨w2.heap.size, 0, none⟩ = some (.int .i64 1) := hT.c1
      have q2 : w4.cell? ⟨w2.heap.size + 1, 0, none⟩ = some (.int .i64 0) := by
        rw [hT.cell (p := ⟨w2.heap.size + 1, 0, none⟩) (by simp) (by simp; omega), cell_old _ _ (by simp; omega)]; exact h5.c1
      have hB04 : Below w.heap.size w w4 := hB02.trans (below_le hB24 (by omega))
      have hx1 : ∀ i, i < len1 → ∃ g, x1 = some ⟨g, 0, none⟩ ∧ g < w1.heap.size ∧ w4.cell? ⟨g, i, none⟩ = some (.int .i64 (Z i)) := fun i hi => by
        obtain ⟨g, hg, _, hc⟩ := hcl1 i hi
        have hb : g < w1.heap.size := World.block_lt_of_cell? _ _ (hc i hi)
        exact ⟨g, hg, hb, below_cell hB24 (below_cell hB2 (hc i hi) hb) (by simp; omega)⟩
      have z4 := hB24.size
      clear hT h5 hdN hNl hNe hB23 hs5
      go_wp2_with fail
      go_loopg [12, 13] (len1 + 1) (fun g s12 s13 wx => ∃ p : Nat, p ≤ len1 ∧ g = p + 1 ∧ s13 = .int .i64 ((p : Int) - 1) ∧ s12 = .int .i64 (wrap64 (T Z len1 - T Z p)) ∧ w4 = wx)
      case atStart => exact ⟨len1, Nat.le_refl _, rfl, rfl, by rw [Int.sub_self, wrap64_zero], rfl⟩
      case round =>
        obtain ⟨p, hp, rfl, rfl, rfl, rfl⟩ := hrel
        cases p with
        | succ i =>
          have e : ((i + 1 : Nat) : Int) - 1 = (i : Int) := by omega
          rw [e]
          clear e
          obtain ⟨g1, h1, _, t1⟩ := hx1 i (by omega)
          subst h1
          have hst := back_step (T Z len1) (T Z i) (Z i)
          have HST : Hid (wrap64 (wrap64 (T Z len1 - T Z (i + 1)) + Z i) = wrap64 (T Z len1 - T Z i)) := hst
          clear hst
          generalize wrap64 (T Z len1 - T Z (i + 1)) = A at HST ⊢
          have hil1 : i < len1 := by omega
          go_wp2_with fail
          go_roundg (i + 1)
          case measure => go_light; omega
          case rel => go_light; exact ⟨i, by omega, rfl, rfl, by rw [← HST.out], rfl⟩
        | zero =>
          have e : wrap64 (T Z len1 - T Z 0) = SI Z len1 := by rw [SI_eq]; show wrap64 (T Z len1 - 0) = _; rw [Int.sub_zero]
          rw [e]
          clear e
          generalize SI Z len1 = G
          go_wp2_with fail
          refine (mkS _ _ _ _ _ _).mono ?_
          rintro e w5 ⟨rfl, hw5⟩
          have h5 := five w4 w4.heap.size rfl (.int .i64 0) (.int .i64 0) (.slice a2 len2 cap2) (.pointer (some ⟨w4.heap.size, 0, none⟩)) (.pointer (some ⟨w4.heap.size + 1, 0, none⟩)) 3 3 42 49 49
          rw [← hw5] at h5
          clear hw5 q1 q2
          have hs5 := h5.size
          have hB45 : Below w4.heap.size w4 w5 := h5.below _ _ (Below.refl _ _) (Nat.le_refl _)
          have hN : ∃ N, (∀ i, i < len2 → a2 = some ⟨N, do2, none⟩ ∧ w5.cell? ⟨N, do2 + i, none⟩ = some (.string (S i))) ∧ N < w4.heap.size + 5 ∧ w4.heap.size ≠ N := by
            rcases Nat.eq_zero_or_pos len2 with h | h
            · exact ⟨w4.heap.size + 1, fun i hi => by omega, by omega, by omega⟩
            · have hb : db2 < w.heap.size := World.block_lt_of_cell? _ _ (hd2 0 h).2
              exact ⟨db2, fun i hi => ⟨(hd2 i hi).1, below_cell hB45 (below_cell hB04 (hd2 i hi).2 hb) (by simp; omega)⟩, by omega, by omega⟩
          obtain ⟨N2, hdN, hNl, hNe⟩ := hN
          go_wp2_with fail
          refine (sumS a2 _ _ _ w4.heap.size N2 do2 len2 cap2 S w5 hm2 hsz h5.c3 h5.c0 h5.f0 h5.c2 hdN (by omega) (by omega) (by omega) hNe).mono ?_
          rintro e w6 ⟨rfl, hT⟩
          have hB46 : Below w4.heap.size w4 w6 := hT.below (hB45.alloc (by omega) _) (by omega) (by omega)
          have r1 : w6.cell? ⟨w4.heap.size, 0, none⟩ = some (.int .i64 1) := hT.c1
          have r2 : w6.cell? ⟨w4.heap.size + 1, 0, none⟩ = some (.int .i64 0) := by
            rw [hT.cell (p := ⟨w4.heap.size + 1, 0, none⟩) (by simp) (by simp; omega), cell_old _ _ (by simp; omega)]; exact h5.c1
          have hB06 : Below w.heap.size w w6 := hB04.trans (below_le hB46 (by omega))
          have hx1' : ∀ i, i < len1 → ∃ g, x1 = some ⟨g, 0, none⟩ ∧ g < w6.heap.size ∧ w6.cell? ⟨g, i, none⟩ = some (.int .i64 (Z i)) := fun i hi => by
            obtain ⟨g, hg, hb, hc⟩ := hx1 i hi
            have z6 := hB46.size
            exact ⟨g, hg, by omega, below_cell hB46 hc (by simp; omega)⟩
          have hx2' : ∀ i, i < len2 → ∃ g, x2 = some ⟨g, 0, none⟩ ∧ g < w6.heap.size ∧ w6.cell? ⟨g, i, none⟩ = some (.string (S i)) := fun i hi => by
            obtain ⟨g, hg, _, hc⟩ := hcl2 i hi
            have hb : g < w2.heap.size := World.block_lt_of_cell? _ _ (hc i hi)
            have z6 := hB46.size
            exact ⟨g, hg, by omega, below_cell hB46 (below_cell hB24 (hc i hi) hb) (by simp; omega)⟩
          have z6 := hB46.size
          clear hT h5 hdN hNl hNe hB45 hs5 hx1 hcl1 hcl2 hB1 hB2 hB02 hB04 hB24
          have hmk := make0 (P := Yba.prog) 33 5 (.int .u8 0) 1 Yba.underlying33 info5 rfl .i64 .i64 q (by omega) (by omega)
          obtain ⟨i0, hi0, hz0, hz1', hz2'⟩ := info_parts info5
          have hown0 : (w6.alloc (.cells (madeCells #[.int .u8 0] q) 5)).ownsRow w6.heap.size 5 1 (.slice (some ⟨w6.heap.size, 0, none⟩) 0 q) 0 [] := World.ownsRow_made w6 _ q (Nat.le_refl _) (by unfold maxLen; omega) (by simp [size_madeCells])
          go_wp2_with fail
          clear hmk
          go_loopg [17, 18] len2 (fun g s17 s18 wx => ∃ (i n capb : Nat) (ab : Option Addr), i ≤ len2 ∧ g = len2 - i ∧ s18 = .int .i64 i ∧ s17 = .slice ab n capb ∧ n = (SS S i).size ∧ wx.ownsRow w6.heap.size 5 1 (.slice ab n capb) n ((nums (SS S i)).map (Value.int .u8)) ∧ w6.Since w6.heap.size wx)
          case atStart => exact ⟨0, 0, q, _, Nat.zero_le _, rfl, rfl, rfl, rfl, hown0, (World.Since.refl _ _).alloc (Nat.le_refl _) _⟩
          case round =>
            clear hown0
            obtain ⟨i, n, capb, ab, hi, rfl, rfl, rfl, hn, hown, hSi⟩ := hrel
            have HNN : Hid (n = (SS S i).size) := hn
            clear hn
            by_cases hil : i < len2
            · have hiz : (i : Int) < (len2 : Int) := by omega
              obtain ⟨g2, hg2, hgl, t0⟩ := hx2' i hil
              subst hg2
              have hsS := hS i hil
              have hSS : n + (S i).size ≤ 65536 := by
                have h1 := size_mono S len2 (i + 1) (by omega)
                rw [size_SS, ← HNN.out] at h1
                omega
              go_wp2_with fail
              go_loopg [17, 19] (S i).size (fun g s17 s19 wx => ∃ (j m capb : Nat) (ab : Option Addr), j ≤ (S i).size ∧ g = (S i).size - j ∧ s19 = .int .i64 j ∧ s17 = .slice ab m capb ∧ m = n + j ∧ wx.ownsRow w6.heap.size 5 1 (.slice ab m capb) m ((nums (SS S i) ++ (nums (S i)).take j).map (Value.int .u8)) ∧ w6.Since w6.heap.size wx)
              case atStart => exact ⟨0, n, capb, ab, Nat.zero_le _, rfl, rfl, rfl, rfl, by rw [List.take_zero, List.append_nil]; exact hown, hSi⟩
              case round =>
                clear hown hSi
                obtain ⟨j, m, capb, ab, hj, rfl, rfl, rfl, hmj, hown, hSi⟩ := hrel
                have t1 : wr.cell? ⟨g2, i, none⟩ = some (.string (S i)) := by rw [hSi.cell (a := ⟨g2, i, none⟩) hgl]; exact t0
                have hcs := hSi.size
                by_cases hjl : j < (S i).size
                · have hjz : (j : Int) < ((S i).size : Int) := by omega
                  have hmb : m + 1 ≤ 65536 := by omega
                  have hnext : (nums (S i)).take (j + 1) = (nums (S i)).take j ++ [(((((S i)[j]'hjl).toNat : Nat) : Int))] := by
                    have hjn : j < (nums (S i)).length := by rw [nums_length]; exact hjl
                    rw [List.take_succ_eq_append_getElem hjn]
                    congr 2
                    simp [nums]
                    rfl
                  have HNX := (show Hid _ from hnext)
                  have HMJ : Hid (m = n + j) := hmj
                  clear hnext hmj
                  go_wp2_with (at_builtin; refine wpList_append_own _ rfl (.tmp 94) (.tmp 101) 33 rfl w6.heap.size 5 i0 (.int .u8 0) 1 1 Yba.underlying33 hi0 hz0 hz1' hz2' rfl (by decide) _ m _ rfl (hown.alloc _) ⟨wr.heap.size, 0, none⟩ 1 1 [.int .u8 ((((S i)[j]'hjl).toNat : Nat) : Int)] rfl ?c1 ?c2 ?c3 ?c4 ?c5 ?c6 ?_)
                  case c1 => rfl
                  case c2 =>
                    intro k u hk
                    match k, hk with
                    | 0, hk =>
                      simp at hk
                      subst hk
                      rw [Addr.add_lit]
                      exact cell_new _ _ _ rfl
                    | k + 1, hk => simp at hk
                  case c3 => intro u hu; simp at hu; subst hu; rfl
                  case c4 => unfold maxLen; omega
                  case c5 => omega
                  case c6 => simp; omega
                  intro v' wn hown' hgrow _
                  have hown1 : wn.ownsRow w6.heap.size 5 1 v' (m + 1) ((nums (SS S i) ++ (nums (S i)).take (j + 1)).map (Value.int .u8)) := by
                    rw [HNX.out]
                    simpa [List.map_take] using hown'
                  clear hown'
                  obtain ⟨a', cap', rfl⟩ := owns_slice hown1
                  have hS1 : w6.Since w6.heap.size wn := (hSi.alloc (by omega) _).grown hgrow (by simp; omega) (fun b hb => (hown.lt b hb).1)
                  have HO := (show Hid _ from hown1)
                  clear hown1 hgrow hown hSi
                  go_wp2_with fail
                  go_roundg ((S i).size - (j + 1))
                  case measure => go_light; omega
                  case rel => go_light; exact ⟨j + 1, m + 1, cap', a', by omega, rfl, by go_num, rfl, by have := HMJ.out; omega, HO.out, hS1⟩
                · have hjz : ¬ ((j : Int) < ((S i).size : Int)) := by omega
                  obtain rfl : j = (S i).size := by omega
                  have HMJ : Hid (m = n + (S i).size) := hmj
                  clear hmj
                  go_wp2_with fail
                  go_roundg (len2 - (i + 1))
                  case measure => go_light; omega
                  case rel =>
                    go_light
                    refine ⟨i + 1, m, capb, ab, by omega, rfl, by go_num, rfl, by rw [show (SS S (i + 1)).size = _ from size_SS S i, ← HNN.out]; exact HMJ.out, ?_, hSi⟩
                    show wr.ownsRow _ _ _ _ _ ((nums (SS S i ++ S i)).map _)
                    rw [nums_append]
                    rw [List.take_of_length_le (by rw [nums_length]; exact Nat.le_refl _)] at hown
                    exact hown
            · have hiz : ¬ ((i : Int) < (len2 : Int)) := by omega
              obtain rfl : len2 = i := by omega
              have hconv : (convert 33 9 (.slice ab n capb)).run Yba.prog wr = .ok (.string (SS S len2)) wr := by
                rcases Nat.eq_zero_or_pos n with h | h
                · have he : SS S len2 = strOfNums [] := by
                    rw [← strOf_nums (SS S len2)]
                    congr 1
                    apply List.eq_nil_of_length_eq_zero
                    rw [nums_length, ← HNN.out, h]
                  rcases hown.2 with ⟨h0, _⟩ | ⟨g, cap', cur, h0, _⟩
                  · simp only [Value.slice.injEq] at h0
                    obtain ⟨rfl, _, _⟩ := h0
                    rw [run_convert_bytes_nil wr 33 5 Yba.underlying33 Yba.underlying5 n capb 9 Yba.underlying9, he]
                    rfl
                  · simp only [Value.slice.injEq] at h0
                    obtain ⟨rfl, _, _⟩ := h0
                    rw [he]
                    exact run_convert_bytes_arg wr 33 5 Yba.underlying33 Yba.underlying5 g 0 n capb [] (by rw [h]; rfl) (fun i hi => by omega) 9 Yba.underlying9
                · obtain ⟨g, rfl, _, _, _, hc⟩ := owned_cells hown h
                  have := run_convert_bytes_arg wr 33 5 Yba.underlying33 Yba.underlying5 g 0 n capb (nums (SS S len2)) (by rw [nums_length, HNN.out]) (fun i hi => by
                    rw [Nat.zero_add]
                    have hil : i < (nums (SS S len2)).length := by rw [nums_length, ← HNN.out]; exact hi
                    exact hc i _ (by simp [List.getD, hil])) 9 Yba.underlying9
                  rw [strOf_nums] at this
                  exact this
              have c1 : wr.cell? ⟨w4.heap.size, 0, none⟩ = some (.int .i64 1) := by rw [hSi.cell (a := ⟨w4.heap.size, 0, none⟩) (World.block_lt_of_cell? _ _ r1)]; exact r1
              have c2 : wr.cell? ⟨w4.heap.size + 1, 0, none⟩ = some (.int .i64 0) := by rw [hSi.cell (a := ⟨w4.heap.size + 1, 0, none⟩) (World.block_lt_of_cell? _ _ r2)]; exact r2
              have hB0r : Below w.heap.size w wr := hB06.trans ⟨hSi.os, hSi.tape, hSi.output, hSi.size, fun b hb => hSi.block b (by omega)⟩
              have e1 : ∀ i, i < len1 → a1 = some ⟨db1, do1, none⟩ ∧ wr.cell? ⟨db1, do1 + i, none⟩ = some (.int .i64 (Z i)) := fun i hi => ⟨(hd1 i hi).1, below_cell hB0r (hd1 i hi).2 (World.block_lt_of_cell? _ _ (hd1 i hi).2)⟩
              have e2 : ∃ yb, ∀ i, i < len1 → x1 = some ⟨yb, 0, none⟩ ∧ wr.cell? ⟨yb, 0 + i, none⟩ = some (.int .i64 (Z i)) := by
                rcases Nat.eq_zero_or_pos len1 with h | h
                · exact ⟨0, fun i hi => by omega⟩
                · obtain ⟨g, hg1, hgl, _⟩ := hx1' 0 h
                  refine ⟨g, fun i hi => ⟨hg1, ?_⟩⟩
                  obtain ⟨g', hg1', _, hc⟩ := hx1' i hi
                  rw [hg1] at hg1'
                  simp only [Option.some.injEq, Addr.mk.injEq, and_true] at hg1'
                  subst hg1'
                  rw [Nat.zero_add, hSi.cell (a := ⟨g, i, none⟩) hgl]
                  exact hc
              have f1 : ∀ i, i < len2 → a2 = some ⟨db2, do2, none⟩ ∧ wr.cell? ⟨db2, do2 + i, none⟩ = some (.string (S i)) := fun i hi => ⟨(hd2 i hi).1, below_cell hB0r (hd2 i hi).2 (World.block_lt_of_cell? _ _ (hd2 i hi).2)⟩
              have f2 : ∃ yb, ∀ i, i < len2 → x2 = some ⟨yb, 0, none⟩ ∧ wr.cell? ⟨yb, 0 + i, none⟩ = some (.string (S i)) := by
                rcases Nat.eq_zero_or_pos len2 with h | h
                · exact ⟨0, fun i hi => by omega⟩
                · obtain ⟨g, hg1, hgl, _⟩ := hx2' 0 h
                  refine ⟨g, fun i hi => ⟨hg1, ?_⟩⟩
                  obtain ⟨g', hg1', _, hc⟩ := hx2' i hi
                  rw [hg1] at hg1'
                  simp only [Option.some.injEq, Addr.mk.injEq, and_true] at hg1'
                  subst hg1'
                  rw [Nat.zero_add, hSi.cell (a := ⟨g, i, none⟩) hgl]
                  exact hc
              obtain ⟨y1, e2⟩ := e2
              obtain ⟨y2, f2⟩ := f2
              clear hown hSi hx1' hx2' hd1 hd2 hB06 hB46 hS
              have E1 := (show Hid _ from e1)
              have E2 := (show Hid _ from e2)
              have F1 := (show Hid _ from f1)
              have F2 := (show Hid _ from f2)
              clear e1 e2 f1 f2
              generalize SS S len2 = joined at hconv ⊢
              go_wp2_with (first
                | (go_at_call 22; refine (equalI a1 x1 len1 cap1 cp1 db1 do1 y1 0 Z _ hm1 E1.out E2.out).mono ?_; rintro e w7 ⟨rfl, d, hw7⟩; have hw8 := hw7.symm; clear hw7; subst hw8)
                | (go_at_call 23; refine (equalS a2 x2 len2 cap2 cp2 db2 do2 y2 0 S _ hm2 (by exact fun i hi => F1.out i hi) (by exact fun i hi => F2.out i hi)).mono ?_; rintro e w9 ⟨rfl, d', hw9⟩; have hw8 := hw9.symm; clear hw9; subst hw8))
              go_ret
              exact ⟨rfl, ⟨hB0r.os, hB0r.tape, hB0r.output, hB0r.size, hB0r.block⟩⟩

end Go.Proofs.Ybulkdloo.W
