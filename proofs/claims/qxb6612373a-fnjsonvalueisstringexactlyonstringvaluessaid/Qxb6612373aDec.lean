import Derived.Test.Qxb6612373aBase
namespace Go.Proofs.Qxb6612373a
open Go.ChangeShapes Go.WideShapes Go.ChangeAt Go.RowKit
set_option linter.unusedVariables false

/-- The digits' array: from k on it holds digits. -/
def Digs (wr : World) (D k : Nat) (zs : List Int) : Prop :=
  wr.heap[D]? = some (.cells (zs.map (Value.int .u8)).toArray 30 (0, 0)) ∧ zs.length = 20 ∧ ∀ j, k ≤ j → j < 20 → 48 ≤ zs.getD j 0 ∧ zs.getD j 0 ≤ 57

/-- What stands in every round. -/
def DInv (B : Nat) (w : World) (D G N C : Nat) (XS : List Int) (wr : World) (k : Nat) : Prop :=
  (∃ zs, Digs wr D k zs) ∧ Own B wr G N C XS ∧ Below B w wr ∧ G ≠ D ∧ B ≤ D

theorem dinv_start {B : Nat} {w w1 : World} {G N C : Nat} {XS : List Int} (hown : Own B w1 G N C XS) (hbel : Below B w w1) :
    DInv B w w1.heap.size G N C XS (w1.alloc (.cells #[.int .u8 0, .int .u8 0, .int .u8 0, .int .u8 0, .int .u8 0, .int .u8 0, .int .u8 0, .int .u8 0, .int .u8 0, .int .u8 0, .int .u8 0, .int .u8 0, .int .u8 0, .int .u8 0, .int .u8 0, .int .u8 0, .int .u8 0, .int .u8 0, .int .u8 0, .int .u8 0] 30)) 20 := by
  refine ⟨⟨List.replicate 20 0, heap_alloc_new w1 _, rfl, fun j h1 h2 => by omega⟩, hown.alloc _, hbel.alloc hown.2 _, ?_, hown.2⟩
  have := hown.lt.2
  omega

theorem dinv_cell {B : Nat} {w : World} {D G N C : Nat} {XS : List Int} {wr : World} {k : Nat} (h : DInv B w D G N C XS wr k) {j : Nat} (hj : j < 20) :
    (∃ z, wr.cell? ⟨D, j, none⟩ = some (.int .u8 z)) ∧ wr.frozen? ⟨D, j, none⟩ = false := by
  obtain ⟨⟨zs, hd, hl, _⟩, _⟩ := h
  refine ⟨⟨zs.getD j 0, ?_⟩, frozen_of_row wr D j _ 30 hd⟩
  rw [cell_of_row wr D j _ 30 (0, 0) hd]
  simp [List.getElem?_eq_getElem (show j < zs.length from by omega)]

theorem dinv_step {B : Nat} {w : World} {D G N C : Nat} {XS : List Int} {wr : World} {j : Nat} (h : DInv B w D G N C XS wr (j + 1)) (hj : j < 20) (z : Int) (h1 : 48 ≤ z) (h2 : z ≤ 57) :
    DInv B w D G N C XS (wr.setCell ⟨D, j, none⟩ (.int .u8 z)) j := by
  obtain ⟨⟨zs, hd, hl, hz⟩, hown, hbel, hne, hBD⟩ := h
  refine ⟨⟨zs.set j z, ?_, by simpa using hl, ?_⟩, ⟨ownsRow_setCell_other hown.1 (by simpa [Value.ownBlock] using hne) _, by have := hown.2; simpa [World.setCell] using this⟩, hbel.setCell hBD _, hne, hBD⟩
  · rw [heap_setCell_same wr D j _ 30 _ hd, List.map_set]
    simp
  · intro i hi1 hi2
    by_cases e : i = j
    · subst e
      simp [hl, hi2]
      omega
    · have := hz i (by omega) hi2
      simp only [List.getD_eq_getElem?_getD] at this ⊢
      rw [List.getElem?_set_ne (by omega)]
      exact this

theorem dinv_news {B : Nat} {w : World} {D G N C : Nat} {XS : List Int} {wr : World} {k : Nat} (h : DInv B w D G N C XS wr k) (hk : k < 20) :
    ∃ d ys, (d :: ys).length = 20 - k ∧ (48 ≤ d ∧ d ≤ 57) ∧ ∀ j u, ((d :: ys).map (Value.int .u8))[j]? = some u → wr.cell? ((⟨D, k, none⟩ : Addr).add j) = some u := by
  obtain ⟨⟨zs, hd, hl, hz⟩, _⟩ := h
  obtain ⟨d, ys, he⟩ : ∃ d ys, zs.drop k = d :: ys := by
    cases hc : zs.drop k with
    | nil => have := congrArg List.length hc; simp at this; omega
    | cons d ys => exact ⟨d, ys, rfl⟩
  have hd0 : zs.getD k 0 = d := by
    have := congrArg (fun l => l[0]?) he
    simp at this
    simp [this]
  refine ⟨d, ys, by rw [← he]; simp; omega, by have := hz k (Nat.le_refl _) hk; rw [hd0] at this; exact this, ?_⟩
  intro j u hu
  rw [← he] at hu
  have hadd : (⟨D, k, none⟩ : Addr).add j = ⟨D, k + j, none⟩ := by unfold Addr.add; split <;> simp_all
  rw [hadd, cell_of_row wr D (k + j) _ 30 (0, 0) hd]
  simpa using hu

/-- digits[k:] -/
theorem slice_digits (D k : Nat) (hk : k < 20) (w : World) : (Instr.sliceAt 30 (.pointer (some ⟨D, 0, none⟩)) (some (.int .i64 (k : Int))) none none).run Try.prog w = .ok (.slice (some ⟨D, k, none⟩) (20 - k) (20 - k)) w := by
  have h20 : Try.prog.arrayLen 30 = 20 := by kernel_rfl
  have he : Try.prog.elem 30 = 5 := by kernel_rfl
  have ht : Try.prog.underlying 30 = some (.array (Try.prog.arrayLen 30) (Try.prog.elem 30)) := by kernel_rfl
  have hsz : (sizeOf 5).run Try.prog w = .ok 1 w := by kernel_rfl
  have h := run_sliceAt_array_l w 30 ⟨D, 0, none⟩ ht .i64 k (by omega) (by rw [h20]; omega)
  rw [h20, he, hsz] at h
  rw [h]
  have hadd : (⟨D, 0, none⟩ : Addr).add k = ⟨D, k, none⟩ := by unfold Addr.add; split <;> simp_all
  have hne : ¬ 20 = k := by omega
  simp [slicedAt, hadd, hne, Result.andThen]

theorem pow_step {m : Int} {j : Nat} (h : m < 10 ^ (j + 1)) : m / 10 < 10 ^ j := by
  rw [Int.pow_succ] at h
  omega
theorem pow_zero_pos {m : Int} {k : Nat} (h : m < 10 ^ k) (hk : 0 < m) : 0 < k := by
  rcases Nat.eq_zero_or_pos k with e | e
  · subst e; simp at h; omega
  · exact e

set_option maxHeartbeats 1600000 in
theorem dec_pos (B g n cap : Nat) (xs : List Int) (x : Int) (w : World) (hown : Own B w g n cap xs) (hb : n ≤ 8388608) (hx1 : 0 ≤ x) (hx2 : x ≤ 9223372036854775807) :
    Calls Try.prog 6 #[.slice (some ⟨g, 0, none⟩) n cap, .int .i64 x] w fun e w' =>
      ∃ g' n' cap' d ys, e = .returned (.slice (some ⟨g', 0, none⟩) n' cap') ∧ Own B w' g' n' cap' (xs ++ d :: ys) ∧ Below B w w' ∧ n + 1 ≤ n' ∧ n' ≤ n + 21 ∧ (d = 45 ∨ (48 ≤ d ∧ d ≤ 57)) := by
  have hd : decide (x < 0) = false := decide_eq_false (by omega)
  go_enter Try.func6, Try.ntmps6
  go_wp2
  go_loopw [5, 7] (fun u t wr => ∃ k : Nat, k ≤ 20 ∧ t = .int .i64 k ∧ ∃ mag : Int, 0 ≤ mag ∧ mag ≤ 9223372036854775808 ∧ Hid (mag < 10 ^ k) ∧ u = .int .u64 mag ∧ DInv B w w.heap.size g n cap xs wr k) (fun _ t _ => (intOf t).toNat)
  case atStart => exact ⟨20, by omega, by rfl, _, by omega, by omega, by show _ < _; omega, rfl, dinv_start hown (Below.refl B w)⟩
  case round =>
    obtain ⟨k, hk, rfl, mag, hm0, hm1, hm2, rfl, hinv⟩ := hrel
    by_cases hgo : k = 20 ∨ 0 < mag
    · obtain ⟨j, rfl⟩ : ∃ j, k = j + 1 := by
        rcases hgo with h | h
        · exact ⟨19, by omega⟩
        · have := pow_zero_pos hm2.out h; exact ⟨k - 1, by omega⟩
      obtain ⟨⟨z, hcz⟩, hfz⟩ := dinv_cell hinv (show j < 20 by omega)
      have hjI : (j : Int) < 20 := by omega
      have hmt : mag.tmod 10 = mag % 10 := Int.tmod_eq_emod_of_nonneg hm0
      have hmd : mag.tdiv 10 = mag / 10 := Int.tdiv_eq_ediv_of_nonneg hm0
      by_cases h20 : j = 19
      · subst h20
        clear hgo
        go_wp2
        go_roundw
        case rel => exact ⟨19, by omega, by rfl, mag / 10, by omega, by omega, pow_step hm2.out, rfl, dinv_step hinv (by omega) _ (by omega) (by omega)⟩
        case measure => simp [intOf]
      · have hpos : 0 < mag := by omega
        have h20I : ((j : Int) + 1 == 20) = false := by simp; omega
        clear hgo
        go_wp2
        go_roundw
        case rel => exact ⟨j, by omega, by rfl, mag / 10, by omega, by omega, pow_step hm2.out, rfl, dinv_step hinv (by omega) _ (by omega) (by omega)⟩
        case measure => simp [intOf]
    · have hk20 : k < 20 := by omega
      have hmz : mag = 0 := by omega
      subst hmz
      obtain ⟨d, ys, hl, hdd, hnews⟩ := dinv_news hinv hk20
      have h20I : ((k : Int) == 20) = false := by simp; omega
      have hsl := slice_digits w.heap.size k hk20
      go_wp2_with (at_builtin; refine wpList_app_at rfl (.tmp 36) (.tmp 38) rfl B g n cap (20 - k) (20 - k) xs (d :: ys) ⟨w.heap.size, k, none⟩ hl (by omega) rfl rfl hnews hinv.2.1 (by omega) ?_; intro g2 cap2 w2 r1 r2 r3)
      go_ret
      exact ⟨g2, n + (20 - k), cap2, d, ys, rfl, r1, hinv.2.2.1.trans r2, by omega, by omega, .inr hdd⟩

set_option maxHeartbeats 1600000 in
theorem dec_neg (B g n cap : Nat) (xs : List Int) (x : Int) (w : World) (hown : Own B w g n cap xs) (hb : n ≤ 8388608) (hx1 : x < 0) (hx2 : -9223372036854775808 ≤ x) :
    Calls Try.prog 6 #[.slice (some ⟨g, 0, none⟩) n cap, .int .i64 x] w fun e w' =>
      ∃ g' n' cap' d ys, e = .returned (.slice (some ⟨g', 0, none⟩) n' cap') ∧ Own B w' g' n' cap' (xs ++ d :: ys) ∧ Below B w w' ∧ n + 1 ≤ n' ∧ n' ≤ n + 21 ∧ (d = 45 ∨ (48 ≤ d ∧ d ≤ 57)) := by
  have hd : decide (x < 0) = true := decide_eq_true (by omega)
  go_enter Try.func6, Try.ntmps6
  go_wp2_with (at_builtin; refine wpList_app rfl (.tmp 10) (.tmp 11) rfl B g n cap 1 1 xs [45] rfl rfl (by omega) rfl rfl hown (by omega) ?_; intro g1 cap1 w1 q1 q2 q3)
  go_loopw [5, 7] (fun u t wr => ∃ k : Nat, k ≤ 20 ∧ t = .int .i64 k ∧ ∃ mag : Int, 0 ≤ mag ∧ mag ≤ 9223372036854775808 ∧ Hid (mag < 10 ^ k) ∧ u = .int .u64 mag ∧ DInv B w w1.heap.size g1 (n + 1) cap1 (xs ++ [45]) wr k) (fun _ t _ => (intOf t).toNat)
  case atStart => exact ⟨20, by omega, by rfl, _, by omega, by omega, by show _ < _; omega, rfl, dinv_start q1 q2⟩
  case round =>
    obtain ⟨k, hk, rfl, mag, hm0, hm1, hm2, rfl, hinv⟩ := hrel
    by_cases hgo : k = 20 ∨ 0 < mag
    · obtain ⟨j, rfl⟩ : ∃ j, k = j + 1 := by
        rcases hgo with h | h
        · exact ⟨19, by omega⟩
        · have := pow_zero_pos hm2.out h; exact ⟨k - 1, by omega⟩
      obtain ⟨⟨z, hcz⟩, hfz⟩ := dinv_cell hinv (show j < 20 by omega)
      have hjI : (j : Int) < 20 := by omega
      have hmt : mag.tmod 10 = mag % 10 := Int.tmod_eq_emod_of_nonneg hm0
      have hmd : mag.tdiv 10 = mag / 10 := Int.tdiv_eq_ediv_of_nonneg hm0
      by_cases h20 : j = 19
      · subst h20
        clear hgo
        go_wp2
        go_roundw
        case rel => exact ⟨19, by omega, by rfl, mag / 10, by omega, by omega, pow_step hm2.out, rfl, dinv_step hinv (by omega) _ (by omega) (by omega)⟩
        case measure => simp [intOf]
      · have hpos : 0 < mag := by omega
        have h20I : ((j : Int) + 1 == 20) = false := by simp; omega
        clear hgo
        go_wp2
        go_roundw
        case rel => exact ⟨j, by omega, by rfl, mag / 10, by omega, by omega, pow_step hm2.out, rfl, dinv_step hinv (by omega) _ (by omega) (by omega)⟩
        case measure => simp [intOf]
    · have hk20 : k < 20 := by omega
      have hmz : mag = 0 := by omega
      subst hmz
      obtain ⟨d, ys, hl, hdd, hnews⟩ := dinv_news hinv hk20
      have h20I : ((k : Int) == 20) = false := by simp; omega
      have hsl := slice_digits w1.heap.size k hk20
      go_wp2_with (at_builtin; refine wpList_app_at rfl (.tmp 36) (.tmp 38) rfl B g1 (n + 1) cap1 (20 - k) (20 - k) (xs ++ [45]) (d :: ys) ⟨w1.heap.size, k, none⟩ hl (by omega) rfl rfl hnews hinv.2.1 (by omega) ?_; intro g2 cap2 w2 r1 r2 r3)
      go_ret
      exact ⟨g2, n + 1 + (20 - k), cap2, 45, d :: ys, rfl, by rw [List.append_assoc] at r1; exact r1, hinv.2.2.1.trans r2, by omega, by omega, .inl rfl⟩

/-- appendDecimal: a digit or a minus sign, then more. -/
theorem dec6 (B g n cap : Nat) (xs : List Int) (x : Int) (w : World) (hown : Own B w g n cap xs) (hb : n ≤ 8388608) (hx1 : -9223372036854775808 ≤ x) (hx2 : x ≤ 9223372036854775807) :
    Calls Try.prog 6 #[.slice (some ⟨g, 0, none⟩) n cap, .int .i64 x] w fun e w' =>
      ∃ g' n' cap' d ys, e = .returned (.slice (some ⟨g', 0, none⟩) n' cap') ∧ Own B w' g' n' cap' (xs ++ d :: ys) ∧ Below B w w' ∧ n + 1 ≤ n' ∧ n' ≤ n + 21 ∧ (d = 45 ∨ (48 ≤ d ∧ d ≤ 57)) := by
  by_cases h : x < 0
  · exact dec_neg B g n cap xs x w hown hb h hx1
  · exact dec_pos B g n cap xs x w hown hb (by omega) hx2
end Go.Proofs.Qxb6612373a
