import Derived.Test.Qxb6612291aSwapMain
namespace Go.Proofs.Qxb6612291a
open Go.ChangeShapes Go.WideShapes Go.ChangeAt Go.RowKit
set_option linter.unusedVariables false

set_option maxHeartbeats 6400000 in
theorem walk5_ne (b off len cap i j lo hi : Nat) (zs : List Int) (w : World) (hlen : len ≤ 131072) (hlz : len ≤ zs.length) (hlh : lo < hi) (hhl : hi < len) (hij : (lo = i ∧ hi = j) ∨ (hi = i ∧ lo = j))
    (hc : ∀ k, k < zs.length → w.cell? ⟨b, off + k, none⟩ = some (.int .i64 (zs.getD k 0))) :
    Calls Try.prog 5 #[.slice (some ⟨b, off, none⟩) len cap, .int .i64 i, .int .i64 j] w fun e w' => e = .returned (.bool true) ∧ Below w.heap.size w w' := by
  obtain ⟨i0, hi0, hz0, hz1, hz2⟩ := info_parts Try.info3
  have h2 : decide ((131072 : Int) < (len : Int)) = false := decide_eq_false (by omega)
  have hbB : b < w.heap.size := World.block_lt_of_cell? w ⟨b, off + 0, none⟩ (hc 0 (by omega))
  have hmk := make0 len (by omega)
  have hzl : (zs.take len).length = len := by rw [List.length_take]; omega
  have HC : Hid (∀ k, k < zs.length → w.cell? ⟨b, off + k, none⟩ = some (.int .i64 (zs.getD k 0))) := hc
  have HZ : Hid ((zs.take len).length = len) := hzl
  obtain ⟨Z, HZe⟩ : ∃ Z, Hid (Z = swapped (zs.take len) i j) := ⟨_, rfl⟩
  have HZl : Hid (Z.length = len) := by show Z.length = len; rw [HZe.out, swapped_length]; exact hzl
  have HZa : Hid (∀ k, k < len → k ≠ lo → k ≠ hi → zs.getD k 0 = Z.getD k 0) := by
    intro k hk n1 n2
    rw [HZe.out, swapped_at _ _ _ _ (by omega) (by omega) (by omega), if_neg (by omega), if_neg (by omega), take_getD _ _ _ hk]
  have HZlo : Hid (zs.getD hi 0 = Z.getD lo 0) := by
    show _ = _
    rw [HZe.out, swapped_at _ _ _ _ (by omega) (by omega) (by omega)]
    rcases hij with ⟨rfl, rfl⟩ | ⟨rfl, rfl⟩
    · rw [if_neg (by omega), if_pos rfl, take_getD _ _ _ (by omega)]
    · rw [if_pos rfl, take_getD _ _ _ (by omega)]
  have HZhi : Hid (zs.getD lo 0 = Z.getD hi 0) := by
    show _ = _
    rw [HZe.out, swapped_at _ _ _ _ (by omega) (by omega) (by omega)]
    rcases hij with ⟨rfl, rfl⟩ | ⟨rfl, rfl⟩
    · rw [if_pos rfl, take_getD _ _ _ (by omega)]
    · rw [if_neg (by omega), if_pos rfl, take_getD _ _ _ (by omega)]
  clear hc hzl
  have hlhI : (lo : Int) < (hi : Int) := by omega
  have hlhE : ((lo : Int) == (hi : Int)) = false := by simp; omega
  have c1 : decide ((lo : Int) < 0) = false := decide_eq_false (by omega)
  have c2 : decide ((len : Int) ≤ (lo : Int)) = false := decide_eq_false (by omega)
  have c3 : decide ((hi : Int) < 0) = false := decide_eq_false (by omega)
  have c4 : decide ((len : Int) ≤ (hi : Int)) = false := decide_eq_false (by omega)
  have c7 : decide (hi < lo) = false := decide_eq_false (by omega)
  have c5 : decide ((hi : Int) < (lo : Int)) = false := decide_eq_false (by omega)
  have c6 : decide ((lo : Int) < (hi : Int)) = true := decide_eq_true (by omega)
  rcases hij with ⟨e1, e2⟩ | ⟨e1, e2⟩
  all_goals
    subst e1
    subst e2
    go_enter Try.func5, Try.ntmps5
    go_wp2_with (first | (go_at_call 12; refine (bytes12_ok _ len cap _ _ (by omega) _).mono ?_; rintro e w' ⟨rfl, hw⟩; obtain rfl := hw.symm) | (go_at_call 13; refine (clone_pos b off len cap zs _ (by omega) (by omega) hlz HC.out).mono ?_; rintro e w1 ⟨g, cp, rfl, hg1, hg2, hown0, hbel0⟩) | (go_at_call 14; refine (swap14 w.heap.size g len cp _ _ (zs.take len) _ HZ.out (by omega) (by omega) hg1 hown0).mono ?_; rintro e w2 ⟨rfl, hown1, hbel1⟩))
    have hinv0 := inv_start (Z := Z) hg1 (by rw [HZe.out]; exact hown1) (hbel0.trans hbel1) hlen
    obtain ⟨B2, hB2⟩ : ∃ B2, B2 = w2.heap.size := ⟨_, rfl⟩
    have hgB : g < B2 := by have := hbel1.size; omega
    have hBw : w.heap.size ≤ B2 := by have := hbel1.size; have := hbel0.size; omega
    have HB2 : Hid (B2 = w2.heap.size) := hB2
    clear hB2 hown0 hown1 hbel0 hbel1 hmk
    go_loopw [10, 11] (fun v t wr => ∃ k : Nat, k ≤ lo ∧ t = .int .i64 k ∧ ∃ ao cp', v = .slice ao k cp' ∧ Inv w g cp B2 len Z wr (.slice ao k cp') k) (fun _ t _ => lo - (intOf t).toNat)
    case atStart => exact ⟨0, Nat.zero_le _, rfl, _, _, rfl, by rw [HB2.out]; exact hinv0⟩
    case round =>
      clear hinv0
      obtain ⟨k, hk, rfl, ao, cp', rfl, hinv⟩ := hrel
      by_cases hlt : k < lo
      · have hkI : (k : Int) < (lo : Int) := by omega
        obtain ⟨z, hz⟩ : ∃ z, z = zs.getD k 0 := ⟨_, rfl⟩
        have hcx : wr.cell? ⟨b, off + k, none⟩ = some (.int .i64 z) := by rw [hz]; exact (hinv.2.1.cell (by exact hbB)).trans (HC.out k (by omega))
        have HZk : Hid (z = Z.getD k 0) := by show z = _; rw [hz]; exact HZa.out k (by omega) (by omega) (by omega)
        have hkI2 : (k : Int) < (len : Int) := by omega
        clear hz
        go_wp2_with (at_builtin; refine wpList_append_lies _ rfl _ _ 24 rfl B2 3 i0 (.int .i64 0) 1 8 Try.underlying24 hi0 hz0 hz1 hz2 rfl (by omega) (.slice ao k cp') k ((Z.take k).map (Value.int .i64)) rfl (hinv.2.2.1.alloc _) ⟨wr.heap.size, 0, none⟩ 1 1 [.int .i64 z] rfl rfl (World.news_of_block (cs := #[.int .i64 z]) (t := 3) (fr := (0, 0)) (heap_alloc_new wr _)) (by simp [Value.oneCell']) (by omega) (by unfold maxLen; omega) (by omega) (by have := hinv.2.2.2; simp; omega) _ rfl ?_; intro gg cpn wn hownn hgrown hatn hltn)
        have R := inv_app hinv hgB hBw (by rw [HZl.out]; omega) HZk.out hownn hgrown
        clear hownn hgrown hinv hcx HZk hkI2
        go_wp2
        go_roundw
        case rel => exact ⟨k + 1, by omega, by go_num, _, _, rfl, R⟩
        case measure => simp [intOf]; omega
      · have hke : k = lo := by omega
        subst hke
        obtain ⟨z, hz⟩ : ∃ z, z = zs.getD hi 0 := ⟨_, rfl⟩
        have hcx : wr.cell? ⟨b, off + hi, none⟩ = some (.int .i64 z) := by rw [hz]; exact (hinv.2.1.cell (by exact hbB)).trans (HC.out hi (by omega))
        have HZk : Hid (z = Z.getD k 0) := by show z = _; rw [hz]; exact HZlo.out
        have hkI2 : (hi : Int) < (len : Int) := by omega
        clear hz
        go_wp2_with (at_builtin; refine wpList_append_lies _ rfl _ _ 24 rfl B2 3 i0 (.int .i64 0) 1 8 Try.underlying24 hi0 hz0 hz1 hz2 rfl (by omega) (.slice ao k cp') k ((Z.take k).map (Value.int .i64)) rfl (hinv.2.2.1.alloc _) ⟨wr.heap.size, 0, none⟩ 1 1 [.int .i64 z] rfl rfl (World.news_of_block (cs := #[.int .i64 z]) (t := 3) (fr := (0, 0)) (heap_alloc_new wr _)) (by simp [Value.oneCell']) (by omega) (by unfold maxLen; omega) (by omega) (by have := hinv.2.2.2; simp; omega) _ rfl ?_; intro gg cpn wn hownn hgrown hatn hltn)
        have R := inv_app hinv hgB hBw (by rw [HZl.out]; omega) HZk.out hownn hgrown
        clear hownn hgrown hinv hcx HZk hkI2
        go_wp2
        go_loopw [10, 12] (fun v t wr => ∃ m : Nat, m ≤ hi ∧ k < m ∧ t = .int .i64 m ∧ ∃ ao cp', v = .slice ao m cp' ∧ Inv w g cp B2 len Z wr (.slice ao m cp') m) (fun _ t _ => hi - (intOf t).toNat)
        case atStart => exact ⟨k + 1, by omega, by omega, by go_num, _, _, rfl, R⟩
        case round =>
          clear R
          obtain ⟨m, hm, hkm, rfl, ao, cp', rfl, hinv⟩ := hrel
          by_cases hlt : m < hi
          · have hkI : (m : Int) < (hi : Int) := by omega
            obtain ⟨z, hz⟩ : ∃ z, z = zs.getD m 0 := ⟨_, rfl⟩
            have hcx : wr.cell? ⟨b, off + m, none⟩ = some (.int .i64 z) := by rw [hz]; exact (hinv.2.1.cell (by exact hbB)).trans (HC.out m (by omega))
            have HZk : Hid (z = Z.getD m 0) := by show z = _; rw [hz]; exact HZa.out m (by omega) (by omega) (by omega)
            have hkI2 : (m : Int) < (len : Int) := by omega
            clear hz
            go_wp2_with (at_builtin; refine wpList_append_lies _ rfl _ _ 24 rfl B2 3 i0 (.int .i64 0) 1 8 Try.underlying24 hi0 hz0 hz1 hz2 rfl (by omega) (.slice ao m cp') m ((Z.take m).map (Value.int .i64)) rfl (hinv.2.2.1.alloc _) ⟨wr.heap.size, 0, none⟩ 1 1 [.int .i64 z] rfl rfl (World.news_of_block (cs := #[.int .i64 z]) (t := 3) (fr := (0, 0)) (heap_alloc_new wr _)) (by simp [Value.oneCell']) (by omega) (by unfold maxLen; omega) (by omega) (by have := hinv.2.2.2; simp; omega) _ rfl ?_; intro gg cpn wn hownn hgrown hatn hltn)
            have R := inv_app hinv hgB hBw (by rw [HZl.out]; omega) HZk.out hownn hgrown
            clear hownn hgrown hinv hcx HZk hkI2
            go_wp2
            go_roundw
            case rel => exact ⟨m + 1, by omega, by omega, by go_num, _, _, rfl, R⟩
            case measure => simp [intOf]; omega
          · have hme : m = hi := by omega
            subst hme
            obtain ⟨z, hz⟩ : ∃ z, z = zs.getD k 0 := ⟨_, rfl⟩
            have hcx : wr.cell? ⟨b, off + k, none⟩ = some (.int .i64 z) := by rw [hz]; exact (hinv.2.1.cell (by exact hbB)).trans (HC.out k (by omega))
            have HZk : Hid (z = Z.getD m 0) := by show z = _; rw [hz]; exact HZhi.out
            have hkI2 : (k : Int) < (len : Int) := by omega
            clear hz
            go_wp2_with (at_builtin; refine wpList_append_lies _ rfl _ _ 24 rfl B2 3 i0 (.int .i64 0) 1 8 Try.underlying24 hi0 hz0 hz1 hz2 rfl (by omega) (.slice ao m cp') m ((Z.take m).map (Value.int .i64)) rfl (hinv.2.2.1.alloc _) ⟨wr.heap.size, 0, none⟩ 1 1 [.int .i64 z] rfl rfl (World.news_of_block (cs := #[.int .i64 z]) (t := 3) (fr := (0, 0)) (heap_alloc_new wr _)) (by simp [Value.oneCell']) (by omega) (by unfold maxLen; omega) (by omega) (by have := hinv.2.2.2; simp; omega) _ rfl ?_; intro gg cpn wn hownn hgrown hatn hltn)
            have R := inv_app hinv hgB hBw (by rw [HZl.out]; omega) HZk.out hownn hgrown
            clear hownn hgrown hinv hcx HZk hkI2
            go_wp2
            go_loopw [10, 13] (fun v t wr => ∃ p : Nat, p ≤ len ∧ m < p ∧ t = .int .i64 p ∧ ∃ ao cp', v = .slice ao p cp' ∧ Inv w g cp B2 len Z wr (.slice ao p cp') p) (fun _ t _ => len - (intOf t).toNat)
            case atStart => exact ⟨m + 1, by omega, by omega, by go_num, _, _, rfl, R⟩
            case round =>
              clear R
              obtain ⟨p, hp, hmp, rfl, ao, cp', rfl, hinv⟩ := hrel
              by_cases hlt : p < len
              · have hkI : (p : Int) < (len : Int) := by omega
                obtain ⟨z, hz⟩ : ∃ z, z = zs.getD p 0 := ⟨_, rfl⟩
                have hcx : wr.cell? ⟨b, off + p, none⟩ = some (.int .i64 z) := by rw [hz]; exact (hinv.2.1.cell (by exact hbB)).trans (HC.out p (by omega))
                have HZk : Hid (z = Z.getD p 0) := by show z = _; rw [hz]; exact HZa.out p (by omega) (by omega) (by omega)
                have hkI2 : (p : Int) < (len : Int) := by omega
                clear hz
                go_wp2_with (at_builtin; refine wpList_append_lies _ rfl _ _ 24 rfl B2 3 i0 (.int .i64 0) 1 8 Try.underlying24 hi0 hz0 hz1 hz2 rfl (by omega) (.slice ao p cp') p ((Z.take p).map (Value.int .i64)) rfl (hinv.2.2.1.alloc _) ⟨wr.heap.size, 0, none⟩ 1 1 [.int .i64 z] rfl rfl (World.news_of_block (cs := #[.int .i64 z]) (t := 3) (fr := (0, 0)) (heap_alloc_new wr _)) (by simp [Value.oneCell']) (by omega) (by unfold maxLen; omega) (by omega) (by have := hinv.2.2.2; simp; omega) _ rfl ?_; intro gg cpn wn hownn hgrown hatn hltn)
                have R := inv_app hinv hgB hBw (by rw [HZl.out]; omega) HZk.out hownn hgrown
                clear hownn hgrown hinv hcx HZk hkI2
                go_wp2
                go_roundw
                case rel => exact ⟨p + 1, by omega, by omega, by go_num, _, _, rfl, R⟩
                case measure => simp [intOf]; omega
              · have hpe : p = len := by omega
                subst hpe
                have hw := hinv.2.2.1
                rw [List.take_of_length_le (by rw [HZl.out]; exact Nat.le_refl _)] at hw
                obtain ⟨g2, cp2, hv, _, _⟩ := hw.form (by omega)
                simp only [Value.slice.injEq, true_and] at hv
                obtain ⟨rfl, rfl⟩ := hv
                go_wp2_with (go_at_call 15; refine (equal15 w.heap.size B2 g g2 p cp cp' Z _ HZl.out (by omega) hinv.1 hw).mono ?_; rintro e w' ⟨rfl, nq, rfl⟩)
                go_ret
                exact ⟨rfl, below_drewN hinv.2.1 _⟩
end Go.Proofs.Qxb6612291a
