/-
  The walk of 'FnAssignStmtCoversItsParts' (5), way by way.
-/
import Derived.Test.YoebwwAssign
namespace Go.Proofs.Yoebww
open Go.RowKit

set_option maxRecDepth 100000 in
set_option maxHeartbeats 1000000 in
theorem law_long (a b c d : ByteArray) (p q r s t : Int) (w : World) (h0 : a.size ≤ maxLen) (h1 : b.size ≤ maxLen) (h2 : c.size ≤ maxLen) (h3 : d.size ≤ maxLen) (h : 1048576 < a.size + b.size + c.size + d.size) :
    Calls Ebwg.prog 5 #[.string a, .int .i64 p, .string b, .int .i64 q, .string c, .int .i64 r, .string d, .int .i64 s, .int .i64 t] w fun e w' => e = .returned (.bool true) ∧ Grown w w' := by
  go_enter Ebwg.func5, Ebwg.ntmps5
  go_wp2_with (go_at_call 9; refine (bytes_out a b c d p q r s t w h0 h1 h2 h3 h).mono ?_; rintro e w' ⟨rfl, rfl⟩)
  go_ret
  exact ⟨rfl, Grown.refl _⟩

set_option maxRecDepth 100000 in
set_option maxHeartbeats 1000000 in
theorem law_over (a b c d : ByteArray) (p q r s t : Int) (w : World) (h : a.size + b.size + c.size + d.size ≤ 1048576)
    (ho : (p < -1073741824 ∨ 1073741824 < p) ∨ ((-1073741824 ≤ p ∧ p ≤ 1073741824) ∧ (q < -1073741824 ∨ 1073741824 < q)) ∨ ((-1073741824 ≤ p ∧ p ≤ 1073741824) ∧ (-1073741824 ≤ q ∧ q ≤ 1073741824) ∧ (r < -1073741824 ∨ 1073741824 < r))
      ∨ ((-1073741824 ≤ p ∧ p ≤ 1073741824) ∧ (-1073741824 ≤ q ∧ q ≤ 1073741824) ∧ (-1073741824 ≤ r ∧ r ≤ 1073741824) ∧ (s < -1073741824 ∨ 1073741824 < s))
      ∨ ((-1073741824 ≤ p ∧ p ≤ 1073741824) ∧ (-1073741824 ≤ q ∧ q ≤ 1073741824) ∧ (-1073741824 ≤ r ∧ r ≤ 1073741824) ∧ (-1073741824 ≤ s ∧ s ≤ 1073741824) ∧ (t < -1073741824 ∨ 1073741824 < t))) :
    Calls Ebwg.prog 5 #[.string a, .int .i64 p, .string b, .int .i64 q, .string c, .int .i64 r, .string d, .int .i64 s, .int .i64 t] w fun e w' => e = .returned (.bool true) ∧ Grown w w' := by
  rcases ho with ho | ⟨hp, ho⟩ | ⟨hp, hq, ho⟩ | ⟨hp, hq, hr, ho⟩ | ⟨hp, hq, hr, hs, ho⟩
  all_goals
    go_enter Ebwg.func5, Ebwg.ntmps5
    go_wp2_with (first | (go_at_call 9; refine (bytes_in a b c d p q r s t w h).mono ?_; rintro e w' ⟨rfl, rfl⟩) | (go_at_call 10; refine (abs_in _ _ (by omega) (by omega)).mono ?_; rintro e w' ⟨rfl, rfl⟩) | (go_at_call 10; refine (abs_out _ _ (by omega)).mono ?_; rintro e w' ⟨rfl, rfl⟩))
    go_ret
    exact ⟨rfl, Grown.refl _⟩

set_option maxRecDepth 100000 in
set_option maxHeartbeats 1000000 in
theorem law_order (a b c d : ByteArray) (p q r s t : Int) (w : World) (h : a.size + b.size + c.size + d.size ≤ 1048576)
    (hp : -1073741824 ≤ p ∧ p ≤ 1073741824) (hq : -1073741824 ≤ q ∧ q ≤ 1073741824) (hr : -1073741824 ≤ r ∧ r ≤ 1073741824) (hs : -1073741824 ≤ s ∧ s ≤ 1073741824) (ht : -1073741824 ≤ t ∧ t ≤ 1073741824)
    (ho : q < p + a.size ∨ (p + a.size ≤ q ∧ r < q + b.size) ∨ (p + a.size ≤ q ∧ q + b.size ≤ r ∧ s < r + c.size)) :
    Calls Ebwg.prog 5 #[.string a, .int .i64 p, .string b, .int .i64 q, .string c, .int .i64 r, .string d, .int .i64 s, .int .i64 t] w fun e w' => e = .returned (.bool true) ∧ Grown w w' := by
  rcases ho with h1 | ⟨h1, h2⟩ | ⟨h1, h2, h3⟩
  all_goals
    go_enter Ebwg.func5, Ebwg.ntmps5
    go_wp2_with (first | (go_at_call 9; refine (bytes_in a b c d p q r s t w h).mono ?_; rintro e w' ⟨rfl, rfl⟩) | (go_at_call 10; refine (abs_in _ _ (by omega) (by omega)).mono ?_; rintro e w' ⟨rfl, rfl⟩))
    go_ret
    exact ⟨rfl, Grown.refl _⟩

set_option maxRecDepth 100000 in
set_option maxHeartbeats 1000000 in
theorem law_main (a b c d : ByteArray) (p q r s t : Int) (w : World) (h : a.size + b.size + c.size + d.size ≤ 1048576)
    (hp : -1073741824 ≤ p ∧ p ≤ 1073741824) (hq : -1073741824 ≤ q ∧ q ≤ 1073741824) (hr : -1073741824 ≤ r ∧ r ≤ 1073741824) (hs : -1073741824 ≤ s ∧ s ≤ 1073741824) (ht : -1073741824 ≤ t ∧ t ≤ 1073741824)
    (h1 : p + a.size ≤ q) (h2 : q + b.size ≤ r) (h3 : r + c.size ≤ s) :
    Calls Ebwg.prog 5 #[.string a, .int .i64 p, .string b, .int .i64 q, .string c, .int .i64 r, .string d, .int .i64 s, .int .i64 t] w fun e w' => e = .returned (.bool true) ∧ Grown w w' := by
  go_enter Ebwg.func5, Ebwg.ntmps5
  go_wp2_with (first | (go_at_call 9; refine (bytes_in a b c d p q r s t w h).mono ?_; rintro e w' ⟨rfl, rfl⟩) | (go_at_call 10; refine (abs_in _ _ (by omega) (by omega)).mono ?_; rintro e w' ⟨rfl, rfl⟩))
  refine (new_any a b c d p q r s t _).mono ?_
  rintro e w1 ⟨o, L, R, i, z, hst, rfl, hg⟩
  have HG : Hid (Grown _ w1) := hg
  have HS : Hid (Stood w1 o L R i z p s d) := hst
  clear hg hst
  go_wp2_with fail
  refine (pos_any o L i p w1 HS.out.lhs HS.out.left HS.out.namePos).mono ?_
  rintro e w' ⟨rfl, rfl⟩
  go_wp2_with fail
  refine (end_any o R z s d _ HS.out.rhs HS.out.right HS.out.valuePos HS.out.literal (by omega) hs.1 hs.2).mono ?_
  rintro e w' ⟨rfl, n, rfl⟩
  go_wp2
  go_ret
  exact ⟨ret_bool (by simp; omega), HG.out⟩

#print axioms law_long
#print axioms law_over
#print axioms law_order
#print axioms law_main
end Go.Proofs.Yoebww
