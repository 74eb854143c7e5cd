import Derived.Test.Qxb6605877aLeaf
namespace Go.Proofs.Qxb6605877a
open Go.RowKit

set_option maxHeartbeats 1000000 in
theorem small_yes (o o' : Int) (t i k t' i' k' : ByteArray) (s s' : Bool) (m c m' c' : Int) (w : World) (h : t.size + i.size + k.size + t'.size + i'.size + k'.size ≤ 1048576) :
    Calls Try.prog 6 #[.agg #[.int .u64 o, .string t, .string i, .string k, .bool s, .int .i64 m, .int .i64 c], .agg #[.int .u64 o', .string t', .string i', .string k', .bool s', .int .i64 m', .int .i64 c']] w fun e w' =>
      e = .returned (.bool true) ∧ Below w.heap.size w w' := by
  go_enter Try.func6, Try.ntmps6
  go_wp2
  go_ret
  exact ⟨rfl, ((Below.refl _ _).alloc (Nat.le_refl _) _).alloc (by simp) _⟩

set_option maxHeartbeats 2000000 in
theorem small_no (o o' : Int) (t i k t' i' k' : ByteArray) (s s' : Bool) (m c m' c' : Int) (w : World) (h : 1048576 < t.size + i.size + k.size + t'.size + i'.size + k'.size) :
    Calls Try.prog 6 #[.agg #[.int .u64 o, .string t, .string i, .string k, .bool s, .int .i64 m, .int .i64 c], .agg #[.int .u64 o', .string t', .string i', .string k', .bool s', .int .i64 m', .int .i64 c']] w fun e w' =>
      e = .returned (.bool false) ∧ Below w.heap.size w w' := by
  go_enter Try.func6, Try.ntmps6
  go_wp2
  all_goals (go_ret; exact ⟨rfl, ((Below.refl _ _).alloc (Nat.le_refl _) _).alloc (by simp) _⟩)

set_option maxHeartbeats 2000000 in
theorem group_big (o o' : Int) (t i k t' i' k' : ByteArray) (s s' : Bool) (m c m' c' : Int) (w : World) (h : 1048576 < t.size + i.size + k.size + t'.size + i'.size + k'.size) :
    Calls Try.prog 3 #[.agg #[.int .u64 o, .string t, .string i, .string k, .bool s, .int .i64 m, .int .i64 c], .agg #[.int .u64 o', .string t', .string i', .string k', .bool s', .int .i64 m', .int .i64 c']] w fun e w' =>
      e = .returned (.bool true) ∧ Below w.heap.size w w' := by
  go_enter Try.func3, Try.ntmps3
  go_wp2_with fail
  refine (small_no o o' t i k t' i' k' s s' m c m' c' _ h).mono ?_
  rintro e w1 ⟨rfl, hb1⟩
  have HB := hidden hb1
  clear hb1
  go_wp2_with fail
  go_ret
  exact ⟨rfl, (((Below.refl _ _).alloc (Nat.le_refl _) _).alloc (by simp) _).trans (HB.out.mono (by simp; omega))⟩
end Go.Proofs.Qxb6605877a
