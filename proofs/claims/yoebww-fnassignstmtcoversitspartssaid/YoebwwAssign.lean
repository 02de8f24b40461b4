/-
  The contracts of what 'FnAssignStmtCoversItsParts' calls: the bound on lengths (9), the bound on a position (10), the maker (11), Pos (12), End (13).
-/
import Derived.Test.YoebwwRows
import Derived.WalkKit
import Derived.WalkSpells
import Derived.WalkLawsBesides
import Derived.BigQuiet
import Derived.Handy
namespace Go.Proofs.Yoebww
open Go.RowKit

theorem ret_int64 {a b : Int} (h : a = b) : Ending.returned (.int .i64 a) = .returned (.int .i64 b) := by rw [h]

theorem wrap_one : IntKind.i64.wrap 1 = 1 := by decide

theorem ret_bool {a b : Bool} (h : a = b) : Ending.returned (.bool a) = .returned (.bool b) := by rw [h]

set_option maxHeartbeats 400000 in
theorem bytes_in (a b c d : ByteArray) (p q r s t : Int) (w : World) (h : a.size + b.size + c.size + d.size ≤ 1048576) :
    Calls Ebwg.prog 9 #[.string a, .int .i64 p, .string b, .int .i64 q, .string c, .int .i64 r, .string d, .int .i64 s, .int .i64 t] w fun e w' => e = .returned (.bool true) ∧ w' = w := by
  go_enter Ebwg.func9, Ebwg.ntmps9
  go_wp2
  go_ret
  exact ⟨rfl, rfl⟩

set_option maxHeartbeats 400000 in
theorem bytes_out (a b c d : ByteArray) (p q r s t : Int) (w : World) (h0 : a.size ≤ maxLen) (h1 : b.size ≤ maxLen) (h2 : c.size ≤ maxLen) (h3 : d.size ≤ maxLen) (h : 1048576 < a.size + b.size + c.size + d.size) :
    Calls Ebwg.prog 9 #[.string a, .int .i64 p, .string b, .int .i64 q, .string c, .int .i64 r, .string d, .int .i64 s, .int .i64 t] w fun e w' => e = .returned (.bool false) ∧ w' = w := by
  unfold maxLen at h0 h1 h2 h3
  go_enter Ebwg.func9, Ebwg.ntmps9
  go_wp2
  all_goals
    go_ret
    exact ⟨rfl, rfl⟩

set_option maxHeartbeats 400000 in
theorem abs_in (p : Int) (w : World) (h0 : -1073741824 ≤ p) (h1 : p ≤ 1073741824) :
    Calls Ebwg.prog 10 #[.int .i64 p] w fun e w' => e = .returned (.bool false) ∧ w' = w := by
  go_enter Ebwg.func10, Ebwg.ntmps10
  go_wp2
  go_ret
  exact ⟨ret_bool (by simp; omega), rfl⟩

set_option maxHeartbeats 400000 in
theorem abs_out (p : Int) (w : World) (h : p < -1073741824 ∨ 1073741824 < p) :
    Calls Ebwg.prog 10 #[.int .i64 p] w fun e w' => e = .returned (.bool true) ∧ w' = w := by
  rcases h with h | h
  · have h' : ¬ 1073741824 < p := by omega
    go_enter Ebwg.func10, Ebwg.ntmps10
    go_wp2
    go_ret
    exact ⟨ret_bool (by simp), rfl⟩
  · go_enter Ebwg.func10, Ebwg.ntmps10
    go_wp2
    go_ret
    exact ⟨ret_bool (by simp), rfl⟩

set_option maxHeartbeats 400000 in
theorem pos_any (s L i : Nat) (x : Int) (w : World) (hs : w.cell? ⟨s, 0, none⟩ = some (.slice (some ⟨L, 0, none⟩) 2 2)) (hL : w.cell? ⟨L, 0, none⟩ = some (.iface 31 (.pointer (some ⟨i, 0, none⟩)))) (hi : w.cell? ⟨i, 1, none⟩ = some (.int .i64 x)) :
    Calls Ebwg.prog 12 #[.pointer (some ⟨s, 0, none⟩)] w fun e w' => e = .returned (.int .i64 x) ∧ w' = w := by
  go_enter Ebwg.func12, Ebwg.ntmps12
  go_wp2
  go_ret
  exact ⟨rfl, rfl⟩

set_option maxHeartbeats 400000 in
theorem strEnd_any (d : Nat) (x : Int) (t : ByteArray) (w : World) (h1 : w.cell? ⟨d, 1, none⟩ = some (.int .i64 x)) (h2 : w.cell? ⟨d, 2, none⟩ = some (.string t)) (ht : t.size ≤ 1048576) (hx0 : -1073741824 ≤ x) (hx1 : x ≤ 1073741824) :
    Calls Ebwg.prog 37 #[.pointer (some ⟨d, 0, none⟩)] w fun e w' => e = .returned (.int .i64 (x + t.size)) ∧ ∃ n, w' = w.drewN n := by
  go_enter Ebwg.func37, Ebwg.ntmps37
  go_wp2
  go_quiet (fail)
  go_wp2
  go_ret
  exact ⟨rfl, _, rfl⟩

theorem meth_end (d : Nat) (w : World) : (method 161 35 (.pointer (some ⟨d, 0, none⟩)) "End").run Ebwg.prog w = .ok (37, .pointer (some ⟨d, 0, none⟩)) w := by kernel_rfl

set_option maxHeartbeats 400000 in
theorem end_any (s R d : Nat) (x : Int) (t : ByteArray) (w : World) (hs : w.cell? ⟨s, 1, none⟩ = some (.slice (some ⟨R, 0, none⟩) 2 2)) (hR : w.cell? ⟨R, 1, none⟩ = some (.iface 35 (.pointer (some ⟨d, 0, none⟩)))) (h1 : w.cell? ⟨d, 1, none⟩ = some (.int .i64 x)) (h2 : w.cell? ⟨d, 2, none⟩ = some (.string t)) (ht : t.size ≤ 1048576) (hx0 : -1073741824 ≤ x) (hx1 : x ≤ 1073741824) :
    Calls Ebwg.prog 13 #[.pointer (some ⟨s, 0, none⟩)] w fun e w' => e = .returned (.int .i64 (x + t.size)) ∧ ∃ n, w' = w.drewN n := by
  have hc := fun wx (g1 : wx.cell? ⟨d, 1, none⟩ = some (.int .i64 x)) (g2 : wx.cell? ⟨d, 2, none⟩ = some (.string t)) => strEnd_any d x t wx g1 g2 ht hx0 hx1
  have HC : Hid (∀ wx : World, wx.cell? ⟨d, 1, none⟩ = some (.int .i64 x) → wx.cell? ⟨d, 2, none⟩ = some (.string t) → Calls Ebwg.prog 37 #[.pointer (some ⟨d, 0, none⟩)] wx fun e w' => e = .returned (.int .i64 (x + t.size)) ∧ ∃ n, w' = wx.drewN n) := hc
  clear hc
  go_enter Ebwg.func13, Ebwg.ntmps13
  go_wp2
  have hw1 := wrap_one
  have hm := meth_end d
  go_quiet ((go_at_call 37; refine Calls.quiet_of (HC.out _ ?_ ?_) <;> (rw [World.cell?_drewN]; assumption)))
  go_wp2
  go_ret
  exact ⟨rfl, _, rfl⟩

/-- What the maker leaves: a statement at s, its two rows at L and R, the first left part at i, the last right part at z. -/
structure Stood (w : World) (s L R i z : Nat) (p y : Int) (d : ByteArray) : Prop where
  lhs : w.cell? ⟨s, 0, none⟩ = some (.slice (some ⟨L, 0, none⟩) 2 2)
  rhs : w.cell? ⟨s, 1, none⟩ = some (.slice (some ⟨R, 0, none⟩) 2 2)
  left : w.cell? ⟨L, 0, none⟩ = some (.iface 31 (.pointer (some ⟨i, 0, none⟩)))
  right : w.cell? ⟨R, 1, none⟩ = some (.iface 35 (.pointer (some ⟨z, 0, none⟩)))
  namePos : w.cell? ⟨i, 1, none⟩ = some (.int .i64 p)
  valuePos : w.cell? ⟨z, 1, none⟩ = some (.int .i64 y)
  literal : w.cell? ⟨z, 2, none⟩ = some (.string d)

set_option maxHeartbeats 400000 in
theorem new_any (a b c d : ByteArray) (p q r s t : Int) (w : World) :
    Calls Ebwg.prog 11 #[.string a, .int .i64 p, .string b, .int .i64 q, .string c, .int .i64 r, .string d, .int .i64 s, .int .i64 t] w fun e w' =>
      ∃ o L R i z : Nat, Stood w' o L R i z p s d ∧ e = .returned (.pointer (some ⟨o, 0, none⟩)) ∧ Grown w w' := by
  go_enter Ebwg.func11, Ebwg.ntmps11
  go_wp2
  go_ret
  refine ⟨_, w.heap.size + 1 + 1, w.heap.size + 1 + 1 + 1 + 1 + 1, w.heap.size, w.heap.size + 1 + 1 + 1 + 1, ⟨?_, ?_, ?_, ?_, ?_, ?_, ?_⟩, rfl, ?_⟩
  case refine_8 => repeat (first | exact Grown.refl _ | apply Grown.alloc)
  all_goals simp [go_sem]

#print axioms bytes_out
#print axioms abs_out
#print axioms pos_any
#print axioms end_any
#print axioms new_any
end Go.Proofs.Yoebww
