/-
  The contracts of 'parser.searchInts' (14) and 'parser.ZZsearchInts' (7), shared by two of the seat's laws.
-/
import Derived.Test.YoebwwRows
import Derived.WalkKit
import Derived.WalkSpells
import Derived.WalkLawsBesides
namespace Go.Proofs.Yoebww
open Go.RowKit

/-- What the search answers over the row 'z' of n numbers: k - 1, where all that the search knows of k is said here. -/
def Found (z : Nat → Int) (n : Nat) (x : Int) (k : Nat) : Prop :=
  k ≤ n ∧ (0 < k → z (k - 1) ≤ x) ∧ (k < n → x < z k)

theorem ret_int {k : IntKind} {a b : Int} (h : a = b) : Ending.returned (.int k a) = .returned (.int k b) := by rw [h]

set_option maxHeartbeats 400000 in
theorem search_any (b off n cap : Nat) (z : Nat → Int) (x : Int) (w : World) (hn : n ≤ 9223372036854775807) (hc : ∀ j, j < n → w.cell? ⟨b, off + j, none⟩ = some (.int .i64 (z j))) :
    Calls Ebwg.prog 14 #[.slice (some ⟨b, off, none⟩) n cap, .int .i64 x] w fun e w' => ∃ k : Nat, Found z n x k ∧ e = .returned (.int .i64 ((k : Int) - 1)) ∧ w' = w := by
  go_enter Ebwg.func14, Ebwg.ntmps14
  go_wp2
  go_loop [5, 6] (fun lo hi => ∃ l h : Nat, l ≤ h ∧ h ≤ n ∧ lo = .int .i64 l ∧ hi = .int .i64 h ∧ (0 < l → z (l - 1) ≤ x) ∧ (h < n → x < z h))
    (fun lo hi => (intOf hi).toNat - (intOf lo).toNat)
  case atStart => exact ⟨0, n, Nat.zero_le _, Nat.le_refl _, rfl, rfl, fun h => absurd h (Nat.lt_irrefl _), fun h => absurd h (Nat.lt_irrefl _)⟩
  case round =>
    obtain ⟨l, h, hlh, hh, rfl, rfl, hl, hr⟩ := hrel
    have HL : Hid (0 < l → z (l - 1) ≤ x) := hl
    have HR : Hid (h < n → x < z h) := hr
    clear hl hr
    have hcell : l < h → w.cell? ⟨b, off + (l + (h - l) / 2), none⟩ = some (.int .i64 (z (l + (h - l) / 2))) := fun _ => hc _ (by omega)
    have HC : Hid (∀ j, j < n → w.cell? ⟨b, off + j, none⟩ = some (.int .i64 (z j))) := hc
    clear hc
    go_wp2
    · have hlt : l < h := by assumption
      have hq : z (l + (h - l) / 2) ≤ x := by assumption
      go_round
      case rel => exact ⟨l + (h - l) / 2 + 1, h, by omega, hh, by go_num, rfl, fun _ => hq, HR.out⟩
      case measure => simp only [intOf]; omega
    · have hlt : l < h := by assumption
      have hq : x < z (l + (h - l) / 2) := by assumption
      go_round
      case rel => exact ⟨l, l + (h - l) / 2, by omega, by omega, rfl, by go_num, HL.out, fun _ => hq⟩
      case measure => simp only [intOf]; omega
    · have hge : ¬ l < h := by assumption
      have e : h = l := by omega
      go_ret
      exact ⟨l, ⟨by omega, HL.out, fun hl => by have := HR.out (by omega); rw [e] at this; exact this⟩, ret_int (by omega), rfl⟩

set_option maxHeartbeats 400000 in
theorem search_nil (x : Int) (w : World) : Calls Ebwg.prog 14 #[.slice none 0 0, .int .i64 x] w fun e w' => e = .returned (.int .i64 (-1)) ∧ w' = w := by
  go_enter Ebwg.func14, Ebwg.ntmps14
  go_wp2
  refine wp_loop_rounds 1 ?_
  rw [rounds_succ]
  go_wp2
  go_ret
  exact ⟨rfl, rfl⟩

set_option maxHeartbeats 400000 in
theorem zz_any (b off n cap : Nat) (z : Nat → Int) (x : Int) (w : World) (hn : n ≤ 9223372036854775807) (hc : ∀ j, j < n → w.cell? ⟨b, off + j, none⟩ = some (.int .i64 (z j))) :
    Calls Ebwg.prog 7 #[.slice (some ⟨b, off, none⟩) n cap, .int .i64 x] w fun e w' => ∃ k : Nat, Found z n x k ∧ e = .returned (.int .i64 ((k : Int) - 1)) ∧ w' = w := by
  have HC : Hid (∀ j, j < n → w.cell? ⟨b, off + j, none⟩ = some (.int .i64 (z j))) := hc
  clear hc
  go_enter Ebwg.func7, Ebwg.ntmps7
  go_wp2_with (go_at_call 14; refine (search_any b off n cap z x w hn HC.out).mono ?_; rintro e w' ⟨k, hk, rfl, rfl⟩)
  go_ret
  exact ⟨k, hk, rfl, rfl⟩

set_option maxHeartbeats 400000 in
theorem zz_nil (x : Int) (w : World) : Calls Ebwg.prog 7 #[.slice none 0 0, .int .i64 x] w fun e w' => e = .returned (.int .i64 (-1)) ∧ w' = w := by
  go_enter Ebwg.func7, Ebwg.ntmps7
  go_wp2_with (go_at_call 14; refine (search_nil x w).mono ?_; rintro e w' ⟨rfl, rfl⟩)
  go_ret
  exact ⟨rfl, rfl⟩

#print axioms zz_any
#print axioms zz_nil
end Go.Proofs.Yoebww
