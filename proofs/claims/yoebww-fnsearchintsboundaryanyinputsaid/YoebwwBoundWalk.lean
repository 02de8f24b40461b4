/-
  The walk of 'FnSearchIntsBoundaryAnyInput' (4).
-/
import Derived.Test.YoebwwCopy
namespace Go.Proofs.Yoebww
open Go.RowKit

set_option maxHeartbeats 400000 in
theorem bound_long (a : Option Addr) (n cap : Nat) (x : Int) (w : World) (hn : n ≤ 9223372036854775807) (h : 131072 < n) :
    Calls Ebwg.prog 4 #[.slice a n cap, .int .i64 x] w fun e w' => e = .returned (.bool true) ∧ Below w.heap.size w w' := by
  by_cases hb : 1048576 < n
  · go_enter Ebwg.func4, Ebwg.ntmps4
    go_wp2
    go_ret
    exact ⟨rfl, Below.refl _ _⟩
  · go_enter Ebwg.func4, Ebwg.ntmps4
    go_wp2
    go_ret
    exact ⟨rfl, Below.refl _ _⟩

set_option maxHeartbeats 400000 in
theorem bound_nil (x : Int) (w : World) :
    Calls Ebwg.prog 4 #[.slice none 0 0, .int .i64 x] w fun e w' => e = .returned (.bool true) ∧ Below w.heap.size w w' := by
  have hne := fun wx => run_neq_slice_nil_any (P := Ebwg.prog) wx 22 3 none 0 0 0 0 Ebwg.underlying22
  go_enter Ebwg.func4, Ebwg.ntmps4
  go_wp2_with (first | (go_at_call 7; refine (zz_nil x w).mono ?_; rintro e w' ⟨rfl, rfl⟩) | go_in)
  go_ret
  exact ⟨rfl, Below.refl _ _⟩

set_option maxHeartbeats 400000 in
theorem bound_row (a : Addr) (n cap : Nat) (z : Nat → Int) (x : Int) (w : World) (hn : n ≤ 131072) (ha : 0 < n → ∃ b off, a = ⟨b, off, none⟩ ∧ ∀ j, j < n → w.cell? ⟨b, off + j, none⟩ = some (.int .i64 (z j))) :
    Calls Ebwg.prog 4 #[.slice (some a) n cap, .int .i64 x] w fun e w' => e = .returned (.bool true) ∧ Below w.heap.size w w' := by
  have hne := fun wx => run_neq_slice_nil_any (P := Ebwg.prog) wx 22 3 (some a) n cap 0 0 Ebwg.underlying22
  have hmk := run_make_row' (P := Ebwg.prog) 22 3 (.int .i64 0) 8 Ebwg.underlying22 Ebwg.info3 rfl .i64 .i64 n (by omega) (by omega)
  have HA : Hid (0 < n → ∃ b off, a = ⟨b, off, none⟩ ∧ ∀ j, j < n → w.cell? ⟨b, off + j, none⟩ = some (.int .i64 (z j))) := ha
  clear ha
  go_enter Ebwg.func4, Ebwg.ntmps4
  go_wp2
  clear hne hmk
  go_loopw [6] (fun i wr => ∃ k : Nat, k ≤ n ∧ i = .int .i64 k ∧ Copied w wr n z k) (fun i _ => n - (intOf i).toNat)
  case atStart => exact ⟨0, Nat.zero_le _, rfl, copied_start w n z⟩
  case round =>
    obtain ⟨k, hk, rfl, hcp⟩ := hrel
    by_cases hlt : k < n
    · obtain ⟨b, off, rfl, hc⟩ := HA.out (by omega)
      have h1 := copied_old hcp (hc k hlt)
      obtain ⟨h2, h3⟩ := copied_made hcp hlt
      have hst := copied_step hcp
      clear hc hcp HA
      go_wp2
      go_roundw
      case rel => exact ⟨k + 1, by omega, by go_num, hst⟩
      case measure => simp [intOf]; omega
    · obtain rfl : k = n := by omega
      have hcell := copied_cell hcp
      have hbel := hcp.below
      clear hcp HA
      have HC : Hid (∀ j, j < k → wr.cell? ⟨w.heap.size, j, none⟩ = some (.int .i64 (z j))) := hcell
      have HB : Hid (Below w.heap.size w wr) := hbel
      clear hcell hbel
      go_wp2_with fail
      refine (zz_any w.heap.size 0 k k z x wr (by omega) (by intro j hj; rw [Nat.zero_add]; exact HC.out j hj)).mono ?_
      rintro e w' ⟨m, ⟨hm, hlo, hhi⟩, rfl, rfl⟩
      by_cases h0 : 0 < m
      · have c1 := HC.out (m - 1) (by omega)
        have q1 := hlo h0
        by_cases h4 : m < k
        · have c2 := HC.out m h4
          have q2 := hhi h4
          clear hlo hhi HC
          go_wp2
          go_ret
          exact ⟨rfl, HB.out⟩
        · clear hlo hhi HC
          go_wp2
          go_ret
          exact ⟨rfl, HB.out⟩
      · obtain rfl : m = 0 := by omega
        by_cases h4 : 0 < k
        · have c2 := HC.out 0 h4
          have q2 := hhi h4
          clear hlo hhi HC
          go_wp2
          go_ret
          exact ⟨rfl, HB.out⟩
        · clear hlo hhi HC
          go_wp2
          go_ret
          exact ⟨rfl, HB.out⟩

#print axioms bound_long
#print axioms bound_nil
#print axioms bound_row
end Go.Proofs.Yoebww
