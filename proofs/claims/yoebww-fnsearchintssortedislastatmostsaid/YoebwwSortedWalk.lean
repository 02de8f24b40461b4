/-
  The walk of 'FnSearchIntsSortedIsLastAtMost' (3), and the plain law: over a nondecreasing row the search's answer is the last index at most x.
-/
import Derived.Test.YoebwwCopy
import Derived.BigQuiet
namespace Go.Proofs.Yoebww
open Go.RowKit

/-! ### The plain law -/

/-- The first k numbers stand in order. -/
def Upto (z : Nat → Int) (k : Nat) : Prop := ∀ i, i + 1 < k → z i ≤ z (i + 1)

/-- Among the first k numbers the last one that is at most x has the place m - 1 (m = 0: there is none). -/
def LastAt (z : Nat → Int) (x : Int) (k m : Nat) : Prop := m ≤ k ∧ (0 < m → z (m - 1) ≤ x) ∧ ∀ j, m ≤ j → j < k → x < z j

theorem upto_one (z : Nat → Int) : Upto z 1 := fun i h => absurd h (by omega)

theorem upto_step {z : Nat → Int} {k : Nat} (h : Upto z k) (hk : 1 ≤ k) (hz : z (k - 1) ≤ z k) : Upto z (k + 1) := by
  intro i hi
  by_cases e : i + 1 < k
  · exact h i e
  · obtain rfl : i = k - 1 := by omega
    rw [show k - 1 + 1 = k from by omega]; exact hz

theorem upto_le {z : Nat → Int} {n : Nat} (h : Upto z n) (i d : Nat) (hd : i + d < n) : z i ≤ z (i + d) := by
  induction d with
  | zero => exact Int.le_refl _
  | succ d ih => exact Int.le_trans (ih (by omega)) (h (i + d) (by omega))

theorem last_zero (z : Nat → Int) (x : Int) : LastAt z x 0 0 := ⟨Nat.le_refl _, fun h => absurd h (by omega), fun j _ h => absurd h (by omega)⟩

theorem last_hit {z : Nat → Int} {x : Int} {k : Nat} (h : z k ≤ x) : LastAt z x (k + 1) (k + 1) :=
  ⟨Nat.le_refl _, fun _ => h, fun j h1 h2 => absurd h2 (by omega)⟩

theorem last_miss {z : Nat → Int} {x : Int} {k m : Nat} (h : LastAt z x k m) (hz : x < z k) : LastAt z x (k + 1) m := by
  refine ⟨by have := h.1; omega, h.2.1, fun j h1 h2 => ?_⟩
  by_cases e : j < k
  · exact h.2.2 j h1 e
  · obtain rfl : j = k := by omega
    exact hz

theorem one_answer {z : Nat → Int} {x : Int} {n k m : Nat} (hs : Upto z n) (hf : Found z n x k) (hl : LastAt z x n m) : k = m := by
  obtain ⟨hk, hk1, hk2⟩ := hf
  obtain ⟨hm, hm1, hm2⟩ := hl
  by_cases h1 : m < k
  · have a := hm2 (k - 1) (by omega) (by omega)
    have b := hk1 (by omega)
    omega
  · by_cases h2 : k < m
    · have a := hm1 (by omega)
      have b := hk2 (by omega)
      have c := upto_le hs k (m - 1 - k) (by omega)
      rw [show k + (m - 1 - k) = m - 1 from by omega] at c
      omega
    · omega

/-! ### The walks -/

set_option maxHeartbeats 400000 in
theorem sorted_long (a : Option Addr) (n cap : Nat) (x : Int) (w : World) (hn : n ≤ 9223372036854775807) (h : 131072 < n) :
    Calls Ebwg.prog 3 #[.slice a n cap, .int .i64 x] w fun e w' => e = .returned (.bool true) ∧ Below w.heap.size w w' := by
  by_cases hb : 1048576 < n
  · go_enter Ebwg.func3, Ebwg.ntmps3
    go_wp2
    go_ret
    exact ⟨rfl, Below.refl _ _⟩
  · go_enter Ebwg.func3, Ebwg.ntmps3
    go_wp2
    go_ret
    exact ⟨rfl, Below.refl _ _⟩

set_option maxHeartbeats 400000 in
theorem sorted_nil (x : Int) (w : World) :
    Calls Ebwg.prog 3 #[.slice none 0 0, .int .i64 x] w fun e w' => e = .returned (.bool true) ∧ Below w.heap.size w w' := by
  have hne := fun wx => run_neq_slice_nil_any (P := Ebwg.prog) wx 22 3 none 0 0 0 0 Ebwg.underlying22
  go_enter Ebwg.func3, Ebwg.ntmps3
  go_wp2
  refine wp_loop_rounds 1 ?_
  rw [rounds_succ]
  go_wp2
  refine wp_loop_rounds 1 ?_
  rw [rounds_succ]
  go_wp2_with fail
  refine (zz_nil x w).mono ?_
  rintro e w' ⟨rfl, rfl⟩
  go_wp2
  go_ret
  exact ⟨rfl, Below.refl _ _⟩

/-- What is known of the world once the copy is made: the row b holds the numbers; nothing that was there has turned. -/
structure Made (w wr : World) (n : Nat) (z : Nat → Int) : Prop where
  below : Below w.heap.size w wr
  cell : ∀ j, j < n → wr.cell? ⟨w.heap.size, j, none⟩ = some (.int .i64 (z j))

theorem Made.drewN {w wr : World} {n : Nat} {z : Nat → Int} (h : Made w wr n z) (q : Nat) : Made w (wr.drewN q) n z :=
  ⟨⟨h.below.os, h.below.tape, h.below.output, h.below.size, h.below.block⟩, h.cell⟩

set_option maxHeartbeats 400000 in
theorem sorted_row (a : Addr) (n cap : Nat) (z : Nat → Int) (x : Int) (w : World) (hn : n ≤ 131072) (ha : 0 < n → ∃ b off, a = ⟨b, off, none⟩ ∧ ∀ j, j < n → w.cell? ⟨b, off + j, none⟩ = some (.int .i64 (z j))) :
    Calls Ebwg.prog 3 #[.slice (some a) n cap, .int .i64 x] w fun e w' => e = .returned (.bool true) ∧ Below w.heap.size w w' := by
  have hne := fun wx => run_neq_slice_nil_any (P := Ebwg.prog) wx 22 3 (some a) n cap 0 0 Ebwg.underlying22
  have hmk := run_make_row' (P := Ebwg.prog) 22 3 (.int .i64 0) 8 Ebwg.underlying22 Ebwg.info3 rfl .i64 .i64 n (by omega) (by omega)
  have HA : Hid (0 < n → ∃ b off, a = ⟨b, off, none⟩ ∧ ∀ j, j < n → w.cell? ⟨b, off + j, none⟩ = some (.int .i64 (z j))) := ha
  clear ha
  go_enter Ebwg.func3, Ebwg.ntmps3
  go_wp2
  clear hne hmk
  go_loopw [6] (fun i wr => ∃ k : Nat, k ≤ n ∧ i = .int .i64 k ∧ Copied w wr n z k) (fun i _ => n - (intOf i).toNat)
  case atStart => exact ⟨0, Nat.zero_le _, rfl, copied_start w n z⟩
  case round =>
    obtain ⟨k, hk, rfl, hcp⟩ := hrel
    by_cases hlt : k < n
    · obtain ⟨b, off, rfl, hc⟩ := HA.out (by omega)
      have h1 := copied_old hcp (hc k hlt)
      obtain ⟨h2, h3⟩ := copied_made hcp hlt
      have hst := copied_step hcp
      clear hc hcp HA
      go_wp2
      go_roundw
      case rel => exact ⟨k + 1, by omega, by go_num, hst⟩
      case measure => simp [intOf]; omega
    · obtain rfl : k = n := by omega
      have hmade : Made w wr k z := ⟨hcp.below, copied_cell hcp⟩
      clear hcp HA
      go_wp2
      go_loopw [7] (fun i wr => ∃ j : Nat, 1 ≤ j ∧ j ≤ k + 1 ∧ i = .int .i64 j ∧ Upto z j ∧ Made w wr k z) (fun i _ => k + 1 - (intOf i).toNat)
      case atStart => exact ⟨1, by omega, by omega, rfl, upto_one z, hmade⟩
      case round =>
        obtain ⟨j, hj1, hj2, rfl, hu, hm⟩ := hrel
        have HU : Hid (Upto z j) := hu
        have HM : Hid (Made w wr k z) := hm
        clear hu hm
        by_cases hlt2 : j < k
        · have c1 := HM.out.cell (j - 1) (by omega)
          have c2 := HM.out.cell j hlt2
          by_cases hq : z j < z (j - 1)
          · go_wp2
            go_quiet (fail)
            go_wp2
            go_ret
            exact ⟨rfl, (HM.out.drewN _).below⟩
          · have hst := upto_step HU.out hj1 (by omega)
            have HS : Hid (Upto z (j + 1)) := hst
            clear hst
            go_wp2
            go_quiet (fail)
            go_wp2
            go_roundw
            case rel => first | exact ⟨j + 1, by omega, by omega, by go_num, HS.out, HM.out.drewN _⟩ | ((repeat apply Exists.intro); exact ⟨⟨j + 1, by omega, by omega, by go_num, HS.out, HM.out.drewN _⟩, rfl⟩)
            case measure => simp [intOf]; omega
        · have HN : Hid (Upto z k) := fun i hi => HU.out i (by omega)
          clear HU
          go_wp2
          go_loop [8, 9] (fun v i => ∃ m q : Nat, q ≤ k ∧ i = .int .i64 q ∧ v = .int .i64 ((m : Int) - 1) ∧ LastAt z x q m) (fun _ i => k - (intOf i).toNat)
          case atStart => exact ⟨0, 0, Nat.zero_le _, rfl, rfl, last_zero z x⟩
          case round =>
            obtain ⟨m, q, hq1, rfl, rfl, hla⟩ := hrel
            have HL : Hid (LastAt z x q m) := hla
            have hmq : m ≤ q := hla.1
            clear hla
            by_cases hlt3 : q < k
            · have c3 := HM.out.cell q hlt3
              by_cases hz : z q ≤ x
              · go_wp2
                go_round
                case rel => exact ⟨q + 1, q + 1, by omega, by go_num, by go_num, last_hit hz⟩
                case measure => simp [intOf]; omega
              · have hst := last_miss HL.out (show x < z q by omega)
                have HS : Hid (LastAt z x (q + 1) m) := hst
                clear hst
                go_wp2
                go_round
                case rel => exact ⟨m, q + 1, by omega, by go_num, rfl, HS.out⟩
                case measure => simp [intOf]; omega
            · obtain rfl : q = k := by omega
              go_wp2_with fail
              refine (zz_any w.heap.size 0 q q z x _ (by omega) (by intro i hi; rw [Nat.zero_add]; exact HM.out.cell i hi)).mono ?_
              rintro e w' ⟨m', hf, rfl, rfl⟩
              obtain rfl := one_answer HN.out hf HL.out
              clear hf HL HN
              go_wp2
              go_ret
              exact ⟨by simp, HM.out.below⟩

#print axioms sorted_long
#print axioms sorted_nil
#print axioms sorted_row
end Go.Proofs.Yoebww
