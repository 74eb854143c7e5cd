import Derived.Test.Qxb6605820aLeaf
namespace Go.Proofs.Qxb6605820a
open Go.RowKit

/-- The suffix of a name. -/
def suf (s : ByteArray) : ByteArray := (⟨#[46]⟩ ++ s) ++ ⟨#[46, 99, 115, 118]⟩

theorem suf_inj (a b : ByteArray) (h : suf a = suf b) : a = b := by
  unfold suf at h
  have h1 := congrArg (fun x : ByteArray => x.data.toList) h
  simp [ByteArray.data_append] at h1
  apply ByteArray.ext
  exact h1

theorem toList_ne {a b : ByteArray} (h : a ≠ b) : (a.toList == b.toList) = false := by
  rw [Go.ByteArray.toList_eq, Go.ByteArray.toList_eq]
  rw [beq_eq_false_iff_ne]
  intro e
  exact h (ByteArray.ext (Array.ext' e))

/-- THE PLAIN LAW. -/
theorem same_suf (a b : ByteArray) : (((suf a).toList == (suf b).toList) == (a.toList == b.toList)) = true := by
  by_cases h : a = b
  · subst h; simp
  · rw [toList_ne h, toList_ne (fun e => h (suf_inj a b e))]; rfl

theorem ret_bool {a b : Bool} (h : a = b) : Ending.returned (.bool a) = .returned (.bool b) := by rw [h]

theorem suffix_any (s : ByteArray) (v : Value) (w : World) (hs : s.size ≤ 65536) :
    Calls Try.prog 8 #[.agg #[.string s, v]] w fun e w' => e = .returned (.string (suf s)) ∧ Below w.heap.size w w' := by
  go_enter Try.func8, Try.ntmps8
  go_wp2_with fail
  go_ret
  exact ⟨rfl, (Below.refl _ _).alloc (Nat.le_refl _) _⟩

theorem zz_any (s : ByteArray) (v : Value) (w : World) (hs : s.size ≤ 65536) :
    Calls Try.prog 6 #[.agg #[.string s, v]] w fun e w' => e = .returned (.string (suf s)) ∧ Below w.heap.size w w' := by
  go_enter Try.func6, Try.ntmps6
  go_wp2_with fail
  refine (suffix_any s v _ hs).mono ?_
  rintro e w' ⟨rfl, hb⟩
  have HB := hidden hb
  clear hb
  go_wp2_with fail
  go_ret
  exact ⟨rfl, ((Below.refl _ _).alloc (Nat.le_refl _) _).trans (HB.out.mono (by simp))⟩

theorem small_yes (s1 s2 : ByteArray) (a1 a2 : Option Addr) (l1 l2 c1 c2 : Nat) (w : World) (h : s1.size + l1 + s2.size + l2 ≤ 1048576) :
    Calls Try.prog 4 #[.string s1, .slice a1 l1 c1, .string s2, .slice a2 l2 c2] w fun e w' => e = .returned (.bool true) ∧ w' = w := by
  go_enter Try.func4, Try.ntmps4
  go_wp2
  go_ret
  exact ⟨rfl, rfl⟩

theorem small_no (s1 s2 : ByteArray) (a1 a2 : Option Addr) (l1 l2 c1 c2 : Nat) (w : World) (h : 1048576 < s1.size + l1 + s2.size + l2) :
    Calls Try.prog 4 #[.string s1, .slice a1 l1 c1, .string s2, .slice a2 l2 c2] w fun e w' => e = .returned (.bool false) ∧ w' = w := by
  go_enter Try.func4, Try.ntmps4
  go_wp2
  all_goals (go_ret; exact ⟨rfl, rfl⟩)

theorem tells_big (s1 s2 : ByteArray) (a1 a2 : Option Addr) (l1 l2 c1 c2 : Nat) (w : World) (h : 1048576 < s1.size + l1 + s2.size + l2) :
    Calls Try.prog 3 #[.string s1, .slice a1 l1 c1, .string s2, .slice a2 l2 c2] w fun e w' => e = .returned (.bool true) ∧ w' = w := by
  go_enter Try.func3, Try.ntmps3
  go_wp2_with fail
  refine (small_no s1 s2 a1 a2 l1 l2 c1 c2 _ h).mono ?_
  rintro e w' ⟨rfl, rfl⟩
  go_wp2_with fail
  go_ret
  exact ⟨rfl, rfl⟩

theorem tells_long (s1 s2 : ByteArray) (a1 a2 : Option Addr) (l1 l2 c1 c2 : Nat) (w : World) (h : s1.size + l1 + s2.size + l2 ≤ 1048576)
    (hx : 65536 < s1.size ∨ 65536 < l1 ∨ 65536 < s2.size ∨ 65536 < l2) :
    Calls Try.prog 3 #[.string s1, .slice a1 l1 c1, .string s2, .slice a2 l2 c2] w fun e w' => e = .returned (.bool true) ∧ w' = w := by
  rcases (show 65536 < s1.size ∨ (s1.size ≤ 65536 ∧ 65536 < l1) ∨ (s1.size ≤ 65536 ∧ l1 ≤ 65536 ∧ 65536 < s2.size) ∨ (s1.size ≤ 65536 ∧ l1 ≤ 65536 ∧ s2.size ≤ 65536 ∧ 65536 < l2) from by omega) with h1 | ⟨h1, h2⟩ | ⟨h1, h2, h3⟩ | ⟨h1, h2, h3, h4⟩
  all_goals
    clear hx
    go_enter Try.func3, Try.ntmps3
    go_wp2_with fail
    refine (small_yes s1 s2 a1 a2 l1 l2 c1 c2 _ h).mono ?_
    rintro e w' ⟨rfl, rfl⟩
    go_wp2_with fail
    go_ret
    exact ⟨rfl, rfl⟩

set_option maxHeartbeats 1000000 in
theorem tells_small (s1 s2 : ByteArray) (a1 a2 : Option Addr) (l1 l2 c1 c2 : Nat) (w : World) (h : s1.size + l1 + s2.size + l2 ≤ 1048576)
    (h1 : s1.size ≤ 65536) (h2 : l1 ≤ 65536) (h3 : s2.size ≤ 65536) (h4 : l2 ≤ 65536) (k1 : IsBools w a1 l1 c1) (k2 : IsBools w a2 l2 c2) :
    Calls Try.prog 3 #[.string s1, .slice a1 l1 c1, .string s2, .slice a2 l2 c2] w fun e w' => e = .returned (.bool true) ∧ Below w.heap.size w w' := by
  have K1 := hidden k1
  have K2 := hidden k2
  clear k1 k2
  go_enter Try.func3, Try.ntmps3
  go_wp2_with fail
  refine (small_yes s1 s2 a1 a2 l1 l2 c1 c2 _ h).mono ?_
  rintro e w' ⟨rfl, rfl⟩
  go_wp2_with fail
  refine (clone_any a1 l1 c1 _ K1.out h2).mono ?_
  rintro e w1 ⟨b1, d1, rfl, y1, hb1⟩
  have Y1 := hidden y1
  have B1 := hidden hb1
  clear y1 hb1
  go_wp2_with fail
  refine (clone_any a2 l2 c2 _ (K2.out.below B1.out) h4).mono ?_
  rintro e w2 ⟨b2, d2, rfl, y2, hb2⟩
  have Y2 := hidden y2
  have B2 := hidden hb2
  clear y2 hb2
  go_wp2_with fail
  refine (cols_any b1 l1 d1 _ (Y1.out.below B2.out) h2).mono ?_
  rintro e w3 ⟨rfl, hb3⟩
  have B3 := hidden hb3
  clear hb3
  go_wp2_with fail
  refine (zz_any s1 _ _ h1).mono ?_
  rintro e w4 ⟨rfl, hb4⟩
  have B4 := hidden hb4
  clear hb4
  go_wp2_with fail
  refine (cols_any b2 l2 d2 _ ((Y2.out.below B3.out).below B4.out) h4).mono ?_
  rintro e w5 ⟨rfl, hb5⟩
  have B5 := hidden hb5
  clear hb5
  go_wp2_with fail
  refine (zz_any s2 _ _ h3).mono ?_
  rintro e w6 ⟨rfl, hb6⟩
  have B6 := hidden hb6
  clear hb6
  go_wp2_with fail
  go_ret
  have s1' := B1.out.size
  have s2' := B2.out.size
  have s3' := B3.out.size
  have s4' := B4.out.size
  have s5' := B5.out.size
  exact ⟨ret_bool (same_suf s1 s2), ((((B1.out.trans (B2.out.mono s1')).trans (B3.out.mono (by omega))).trans (B4.out.mono (by omega))).trans (B5.out.mono (by omega))).trans (B6.out.mono (by omega))⟩
end Go.Proofs.Qxb6605820a
