import Derived.Test.Qxb6612291aBytes
import Derived.Test.Qxb6612291aPush
import Derived.Deep.QuietTactic
import Derived.BigQuiet
import Derived.WalkSmall
import Derived.Outline
namespace Go.Proofs.Qxb6612291a
open Go.ChangeShapes Go.WideShapes Go.ChangeAt Go.RowKit
set_option linter.unusedVariables false

/-- The numbers of a slice as cells: what a round reads. -/
theorem row_at {w : World} {a : Option Addr} {len cap : Nat} {zs : List Int} (h : IsRow .i64 w a len cap zs) {k : Nat} (hk : k < len) :
    ∃ b off, a = some ⟨b, off, none⟩ ∧ b < w.heap.size ∧ k < zs.length ∧ w.cell? ⟨b, off + k, none⟩ = some (.int .i64 (zs.getD k 0)) := by
  rcases h with ⟨rfl, rfl, rfl, rfl⟩ | ⟨x, rfl, hl, hm, hz, hcell, hwf⟩
  · omega
  · obtain ⟨b, off, spot⟩ := x
    have hspot : spot = none := by simpa [Addr.add] using World.cell?_spot (hcell 0 (by omega))
    subst hspot
    have hc : w.cell? ⟨b, off + k, none⟩ = some (.int .i64 (zs.getD k 0)) := by rw [← add_plain]; exact hcell k (by omega)
    exact ⟨b, off, rfl, World.block_lt_of_cell? w _ hc, by omega, hc⟩

theorem row_len {w : World} {a : Option Addr} {len cap : Nat} {zs : List Int} (h : IsRow .i64 w a len cap zs) : len ≤ zs.length ∧ len ≤ maxLen := by
  rcases h with ⟨rfl, rfl, rfl, rfl⟩ | ⟨x, rfl, hl, hm, hz, hcell, hwf⟩
  · exact ⟨Nat.le_refl _, Nat.zero_le _⟩
  · exact ⟨by omega, by omega⟩

/-- What c holds behind k pushes. -/
def pushed (z0 z1 : List Int) (len0 k : Nat) : List Value := (z0.take len0).map (Value.int .i64) ++ (z1.take k).map (Value.int .i64)
theorem pushed_zero (z0 z1 : List Int) (len0 : Nat) : pushed z0 z1 len0 0 = (z0.take len0).map (Value.int .i64) := by simp [pushed]
theorem pushed_succ (z0 z1 : List Int) (len0 k : Nat) (hk : k < z1.length) : pushed z0 z1 len0 k ++ [.int .i64 (z1.getD k 0)] = pushed z0 z1 len0 (k + 1) := by
  unfold pushed
  rw [List.take_succ_eq_append_getElem hk, List.map_append, List.append_assoc]
  congr 1
  simp [List.getElem?_eq_getElem hk]
theorem pushed_left (z0 z1 : List Int) (len0 n k : Nat) (h : len0 ≤ z0.length) (hk : k < len0) : (pushed z0 z1 len0 n)[k]? = some (.int .i64 (z0.getD k 0)) := by
  unfold pushed
  have hl : ((z0.take len0).map (Value.int .i64)).length = len0 := by rw [List.length_map, List.length_take]; omega
  rw [List.getElem?_append_left (by rw [hl]; exact hk), List.getElem?_map, List.getElem?_take, if_pos hk]
  simp [List.getElem?_eq_getElem (show k < z0.length from by omega)]
theorem pushed_right (z0 z1 : List Int) (len0 n k : Nat) (h : len0 ≤ z0.length) (h1 : n ≤ z1.length) (hk : k < n) : (pushed z0 z1 len0 n)[len0 + k]? = some (.int .i64 (z1.getD k 0)) := by
  unfold pushed
  have hl : ((z0.take len0).map (Value.int .i64)).length = len0 := by rw [List.length_map, List.length_take]; omega
  rw [List.getElem?_append_right (by rw [hl]; omega), hl, Nat.add_sub_cancel_left, List.getElem?_map, List.getElem?_take, if_pos hk]
  simp [List.getElem?_eq_getElem (show k < z1.length from by omega)]

set_option maxHeartbeats 400000 in
theorem walk6_bytes (a0 a1 : Option Addr) (len0 cap0 len1 cap1 : Nat) (w : World) (m0 : len0 ≤ maxLen) (m1 : len1 ≤ maxLen) (h : ¬ len0 + len1 ≤ 1048576) :
    Calls Try.prog 6 #[.slice a0 len0 cap0, .slice a1 len1 cap1] w fun e w' => e = .returned (.bool true) ∧ Below w.heap.size w w' := by
  go_enter Try.func6, Try.ntmps6
  go_wp2_with (go_at_call 16; refine (bytes16_no a0 a1 len0 cap0 len1 cap1 m0 m1 h _).mono ?_; rintro e w' ⟨rfl, rfl⟩)
  go_ret
  exact ⟨rfl, Below.refl _ _⟩

set_option maxHeartbeats 400000 in
theorem walk6_long (a0 a1 : Option Addr) (len0 cap0 len1 cap1 : Nat) (w : World) (h : len0 + len1 ≤ 1048576) (h2 : (131072 : Int) < len0) :
    Calls Try.prog 6 #[.slice a0 len0 cap0, .slice a1 len1 cap1] w fun e w' => e = .returned (.bool true) ∧ Below w.heap.size w w' := by
  go_enter Try.func6, Try.ntmps6
  go_wp2_with (go_at_call 16; refine (bytes16_ok a0 a1 len0 cap0 len1 cap1 h _).mono ?_; rintro e w' ⟨rfl, rfl⟩)
  go_ret
  exact ⟨rfl, Below.refl _ _⟩

set_option maxHeartbeats 400000 in
theorem walk6_long2 (a0 a1 : Option Addr) (len0 cap0 len1 cap1 : Nat) (w : World) (h : len0 + len1 ≤ 1048576) (h2 : ¬ (131072 : Int) < len0) (h3 : (131072 : Int) - len0 < len1) :
    Calls Try.prog 6 #[.slice a0 len0 cap0, .slice a1 len1 cap1] w fun e w' => e = .returned (.bool true) ∧ Below w.heap.size w w' := by
  go_enter Try.func6, Try.ntmps6
  go_wp2_with (go_at_call 16; refine (bytes16_ok a0 a1 len0 cap0 len1 cap1 h _).mono ?_; rintro e w' ⟨rfl, rfl⟩)
  go_ret
  exact ⟨rfl, Below.refl _ _⟩

set_option maxHeartbeats 1600000 in
theorem walk6_main (a0 a1 : Option Addr) (len0 cap0 len1 cap1 : Nat) (z0 z1 : List Int) (w : World) (r0 : IsRow .i64 w a0 len0 cap0 z0) (r1 : IsRow .i64 w a1 len1 cap1 z1) (hb : len0 + len1 ≤ 131072) :
    Calls Try.prog 6 #[.slice a0 len0 cap0, .slice a1 len1 cap1] w fun e w' => e = .returned (.bool true) ∧ Below w.heap.size w w' := by
  have h2 : ¬ (131072 : Int) < len0 := by omega
  have h3 : ¬ (131072 : Int) - len0 < len1 := by omega
  have hz0 := (row_len r0).1
  have hz1 := (row_len r1).1
  go_enter Try.func6, Try.ntmps6
  go_wp2_with (first | (go_at_call 16; refine (bytes16_ok a0 a1 len0 cap0 len1 cap1 (by omega) _).mono ?_; rintro e w' ⟨rfl, hw⟩; obtain rfl := hw.symm) | (go_at_call 13; refine (clone_any a0 len0 cap0 z0 _ r0 (by omega)).mono ?_; rintro e w1 ⟨v0, rfl, hown0, hbel0⟩))
  go_loopw [5, 6] (fun c i wr => ∃ k : Nat, k ≤ len1 ∧ i = .int .i64 k ∧ (∃ ao cp, c = .slice ao (len0 + k) cp ∧ wr.ownsRow w.heap.size 3 1 (.slice ao (len0 + k) cp) (len0 + k) (pushed z0 z1 len0 k)) ∧ Below w.heap.size w wr) (fun _ i _ => len1 - (intOf i).toNat)
  case atStart =>
    obtain ⟨ao, cp, rfl⟩ := own_slice hown0
    exact ⟨0, Nat.zero_le _, rfl, ⟨ao, cp, rfl, by rw [pushed_zero]; exact hown0⟩, hbel0⟩
  case round =>
    obtain ⟨k, hk, rfl, ⟨ao, cp, rfl, hown⟩, hbel⟩ := hrel
    clear hown0 hbel0
    by_cases hlt : k < len1
    · obtain ⟨b, off, rfl, hbs, hkz, hcx⟩ := row_at r1 hlt
      have hps := pushed_succ z0 z1 len0 k hkz
      obtain ⟨z, hz⟩ : ∃ z, z = z1.getD k 0 := ⟨_, rfl⟩
      rw [← hz] at hps hcx
      have hcy : wr.cell? ⟨b, off + k, none⟩ = some (.int .i64 z) := (hbel.cell (by exact hbs)).trans hcx
      have hkI : (k : Int) < (len1 : Int) := by omega
      have P : Hid (∀ wx : World, wx = wr → Calls Try.prog 17 #[.slice ao (len0 + k) cp, .int .i64 z] wx fun e w' => ∃ g cap, e = .returned (.slice (some ⟨g, 0, none⟩) (len0 + k + 1) cap) ∧ w'.ownsRow w.heap.size 3 1 (.slice (some ⟨g, 0, none⟩) (len0 + k + 1) cap) (len0 + k + 1) (pushed z0 z1 len0 (k + 1)) ∧ Below w.heap.size wx w') := by
        rintro wx rfl
        have := push17 w.heap.size (len0 + k) z (.slice ao (len0 + k) cp) (pushed z0 z1 len0 k) wx hown hbel.size (by omega)
        rw [hps] at this
        exact this
      clear hz hps hcx r0 r1
      go_wp2_with (go_at_call 17; refine (P.out _ rfl).mono ?_; rintro e w' ⟨g, cap, rfl, hown', hbel'⟩)
      go_roundw
      case rel => exact ⟨k + 1, by omega, by go_num, ⟨_, cap, rfl, hown'⟩, hbel.trans hbel'⟩
      case measure => simp [intOf]; omega
    · have hke : k = len1 := by omega
      subst hke
      go_wp2
      go_loopw [7] (fun i w2 => ∃ j : Nat, j ≤ len0 ∧ i = .int .i64 j ∧ w2.ownsRow w.heap.size 3 1 (.slice ao (len0 + k) cp) (len0 + k) (pushed z0 z1 len0 k) ∧ Below w.heap.size w w2) (fun i _ => len0 - (intOf i).toNat)
      case atStart => exact ⟨0, Nat.zero_le _, rfl, hown, hbel⟩
      case round =>
        clear hown hbel
        obtain ⟨j, hj, rfl, hown, hbel⟩ := hrel
        by_cases hjt : j < len0
        · obtain ⟨b, off, rfl, hbs, hkz, hcx⟩ := row_at r0 hjt
          obtain ⟨g, cap, hv, hg1, hg2⟩ := hown.form (by omega)
          simp only [Value.slice.injEq, true_and] at hv
          obtain ⟨rfl, rfl⟩ := hv
          have hcc := hown.cellAt j (by omega)
          rw [pushed_left z0 z1 len0 k j hz0 hjt] at hcc
          obtain ⟨z, hz⟩ : ∃ z, z = z0.getD j 0 := ⟨_, rfl⟩
          rw [← hz] at hcx hcc
          have hcy := (hbel.cell (p := ⟨b, off + j, none⟩) (by exact hbs)).trans hcx
          have hjI : (j : Int) < (len0 : Int) := by omega
          have hjI2 : (j : Int) < ((len0 + k : Nat) : Int) := by omega
          clear hz hcx r0 r1
          go_wp2
          go_quiet (fail)
          go_wp2
          go_roundw
          case rel => exact ⟨j + 1, by omega, by go_num, hown, below_drewN hbel _⟩
          case measure => simp [intOf]; omega
        · have hje : j = len0 := by omega
          subst hje
          go_wp2
          go_loopw [8] (fun i w2 => ∃ i' : Nat, i' ≤ k ∧ i = .int .i64 i' ∧ w2.ownsRow w.heap.size 3 1 (.slice ao (j + k) cp) (j + k) (pushed z0 z1 j k) ∧ Below w.heap.size w w2) (fun i _ => k - (intOf i).toNat)
          case atStart => exact ⟨0, Nat.zero_le _, rfl, hown, hbel⟩
          case round =>
            clear hown hbel
            obtain ⟨i, hi, rfl, hown, hbel⟩ := hrel
            by_cases hit : i < k
            · obtain ⟨b, off, rfl, hbs, hkz, hcx⟩ := row_at r1 hit
              obtain ⟨g, cap, hv, hg1, hg2⟩ := hown.form (by omega)
              simp only [Value.slice.injEq, true_and] at hv
              obtain ⟨rfl, rfl⟩ := hv
              have hcc := hown.cellAt (j + i) (by omega)
              rw [pushed_right z0 z1 j k i hz0 hz1 hit] at hcc
              obtain ⟨z, hz⟩ : ∃ z, z = z1.getD i 0 := ⟨_, rfl⟩
              rw [← hz] at hcx hcc
              have hcy := (hbel.cell (p := ⟨b, off + i, none⟩) (by exact hbs)).trans hcx
              have hiI : (i : Int) < (k : Int) := by omega
              have hjI2 : (j : Int) + (i : Int) < ((j + k : Nat) : Int) := by omega
              have ht : ((j : Int) + (i : Int)).toNat = j + i := by omega
              clear hz hcx r0 r1
              go_wp2
              go_quiet (fail)
              go_wp2
              go_roundw
              case rel => exact ⟨i + 1, by omega, by go_num, hown, below_drewN hbel _⟩
              case measure => simp [intOf]; omega
            · have hie : i = k := by omega
              subst hie
              go_wp2
              go_ret
              exact ⟨rfl, hbel⟩
end Go.Proofs.Qxb6612291a
